/-
  'Rows.FnCloneCallsSharesNoArgsWithItsInputSaid', PROVED. The frame is after the guide's shell for a law over slices (howto/shells), turned to this function's types.
-/
import Derived.Test.Qxb6000533aRows
import Derived.Test.Qxb6000533aShares
import Derived.Test.Qxb6000533aOpen
import Derived.ShutString
import Derived.ChangeOld
import Derived.Below
namespace Go.Proofs.Qxb6000533a
open Go.ChangeShapes Go.WideShapes Go.ChangeAt Go.RowKit

theorem ownS : ownKnob Try.prog.godebug = none := by kernel_rfl
theorem laidOutS : laidOutB Try.prog = true := by kernel_rfl

theorem below_of_sinceS {w w' : World} (h : w.Since w.heap.size w') : Below w.heap.size w w' := ⟨h.os, h.tape, h.output, h.size, h.block⟩

set_option maxRecDepth 100000 in
theorem shares_lifted (os : Os) (started : os.Started) (H : Type) (enc : TypeId × Value → H) :
    ReturnsInHanded {} Try.checked os 6 .any (Rows.fnCloneCallsSharesNoArgsWithItsInputSpec.pre6 enc Try.prog Try.f6 Rows.fnCloneCallsSharesNoArgsWithItsInputRow.domain false) (Rows.fnCloneCallsSharesNoArgsWithItsInputSpec.post enc Try.prog Try.f6 false true false false) := by
  refine returnsInHanded_of_change (C := Try.checked) ownS started (by kernel_rfl) Try.func6
    (ChangeSpec.witness6 (enc := enc) (C := Try.checked) false ⟨#[], #[.slice none 0 0, .slice none 0 0, .slice none 0 0], []⟩ 8 (by kernel_rfl) (by kernel_rfl) (by kernel_rfl) (by kernel_rfl)) ?_
  intro W base args ds gs before hval0 hW hcnd _
  have hval : ∀ (j : Nat) t v, Try.f6.params[j]? = some t → args[j]? = some v → Value.okWide Try.prog W .any base t v := hval0
  have hW' := hW
  obtain ⟨p, q, hA0, hV, rfl, hfz, hnd⟩ := hW
  have hA : DataW.TrodAll enc Try.prog W 0 (fun _ => true) true Try.f6.params.toList args.toList ds p := hA0
  rw [Try.params6] at hA hval
  obtain ⟨v0, vs0, d0, ds0, p0, q0, hargs, rfl, rfl, h0, r0⟩ := trodAll_cons hA
  obtain ⟨v1, vs1, d1, ds1, p1, q1, rfl, rfl, rfl, h1, r1⟩ := trodAll_cons r0
  obtain ⟨v2, vs2, d2, ds2, p2, q2, rfl, rfl, rfl, h2, r2⟩ := trodAll_cons r1
  obtain ⟨rfl, rfl, rfl⟩ := trodAll_nil r2
  obtain rfl : args = #[v0, v1, v2] := by cases args; simp_all
  obtain ⟨rfl, rfl⟩ := trodVars_none hV
  obtain ⟨a0, l0, c0, rfl⟩ := okWide_slice Try.underlying31 (hval 0 31 v0 rfl rfl)
  obtain ⟨a1, l1, c1, rfl⟩ := okWide_slice Try.underlying32 (hval 1 32 v1 rfl rfl)
  obtain ⟨a2, l2, c2, rfl⟩ := okWide_slice Try.underlying33 (hval 2 33 v2 rfl rfl)
  have k0 := h0
  have k1 := h1
  have k2 := h2
  have lt0 : ∀ x ∈ p0, x.block < W.heap.size := by obtain ⟨m, hm⟩ := k0; exact DataW.trod_lt m _ _ _ hm
  have lt1 : ∀ x ∈ p1, x.block < W.heap.size := by obtain ⟨m, hm⟩ := k1; exact DataW.trod_lt m _ _ _ hm
  have lt2 : ∀ x ∈ p2, x.block < W.heap.size := by obtain ⟨m, hm⟩ := k2; exact DataW.trod_lt m _ _ _ hm
  obtain ⟨n0, S0, w0⟩ : ∃ (n : Nat) (S : Nat → ByteArray), Row W 0 (.slice a0 l0 c0) n fun i => .string (S i) := by
    obtain ⟨fuel, hf⟩ := h0
    exact open_row31 (by simpa [Value.cells] using hf)
  obtain ⟨n1, V1, L1, S1, w1⟩ : ∃ n V L S, Mat W 0 (.slice a1 l1 c1) n V L S := by
    obtain ⟨fuel, hf⟩ := h1
    exact open_mat32 (by simpa [Value.cells] using hf)
  obtain ⟨n2, T2, hn2, w2⟩ : ∃ (n : Nat) (T : Nat → Int), n ≤ maxLen ∧ Row W 0 (.slice a2 l2 c2) n fun i => .int .i64 (T i) := by
    obtain ⟨fuel, hf⟩ := h2
    exact open_row33 (by simpa [Value.cells] using hf)
  clear hA0 hval0
  refine (shares_walk w0 w1 w2 hn2).mono fun e W' ⟨he, hs⟩ => ?_
  have bel := below_of_sinceS hs
  subst he
  exact ⟨_, rfl, _, _, _, [], _, [], hW', trodAll_mk1 (shut_bool Try.underlying4 _), (trodAll_cons_mk (Below.trod laidOutS (by kernel_rfl) (of_decide_eq_true (by kernel_rfl)) k0 bel lt0) (trodAll_cons_mk (Below.trod laidOutS (by kernel_rfl) (of_decide_eq_true (by kernel_rfl)) k1 bel lt1) (trodAll_cons_mk (Below.trod laidOutS (by kernel_rfl) (of_decide_eq_true (by kernel_rfl)) k2 bel lt2) trodAll_mk0))), rfl, bel.frame _, fun h => by cases h⟩

theorem fnCloneCallsSharesNoArgsWithItsInput_proved : Rows.FnCloneCallsSharesNoArgsWithItsInputSaid :=
  OpenClaim.holds_of_wide 6 Try.f6 rfl rfl rfl rfl rfl rfl rfl ⟨rfl, rfl, rfl, rfl, rfl⟩ rfl rfl rfl rfl rfl (by kernel_rfl) Try.func6 (by kernel_rfl)
    (of_decide_eq_true (by kernel_rfl)) (by unfold Func.isWrapper; first | (rw [if_pos (by decide +kernel)]; kernel_rfl) | (rw [if_neg (by decide +kernel)]; exact ⟨rfl, rfl⟩))
    (fun os started H enc _ => shares_lifted os started H enc)

end Go.Proofs.Qxb6000533a
