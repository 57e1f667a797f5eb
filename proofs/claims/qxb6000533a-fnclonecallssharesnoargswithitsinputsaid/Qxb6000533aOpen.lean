/-
  THE ARGUMENTS OPENED: a '[]string', a '[][]string', a '[]int64' that can be read as data lie in the world as 'Row', 'Mat' say.
-/
import Derived.Test.Qxb6000533aCopy
import Derived.ProofKit
import Derived.OpenShut
import Derived.Deep.Strs
namespace Go.Proofs.Qxb6000533a
open Go.ChangeShapes Go.WideShapes Go.RowKit Go.Deep

theorem Try.cells9 : Try.prog.cellsOf 9 = 1 := by kernel_rfl
theorem Try.cells31 : Try.prog.cellsOf 31 = 1 := by kernel_rfl
theorem Try.cells2 : Try.prog.cellsOf 2 = 1 := by kernel_rfl

/-- From cells at an address to 'Row'. -/
theorem Row.ofAdd {w : World} {a : Addr} {n cap : Nat} {f : Nat → Value} (h : ∀ i, i < n → w.cell? (a.add i) = some (f i)) : Row w 0 (.slice (some a) n cap) n f := by
  obtain ⟨b, o, spot⟩ := a
  refine ⟨_, b, o, cap, rfl, (fun e => by cases e), fun h0 => ?_, fun i hi => ?_⟩
  · have hspot : spot = none := by simpa [Addr.add] using World.cell?_spot (h 0 h0)
    subst hspot
    exact ⟨rfl, Nat.zero_le _⟩
  · have hspot : spot = none := by simpa [Addr.add] using World.cell?_spot (h 0 (by omega))
    subst hspot
    rw [← addPlain]
    exact h i hi

section
variable {H : Type} {enc : TypeId × Value → H} {w : World} {fuel : Nat} {v : Value} {x : DataW H × List MemPlace}

theorem open_row31 (h : DataW.trod enc Try.prog w 0 (fun _ => true) true fuel 31 [v] = some x) : ∃ (n : Nat) (p : Nat → ByteArray), Row w 0 v n fun i => .string (p i) := by
  rcases open_strs Try.underlying31 Try.underlying9 Try.cells9 h with ⟨hcs, _⟩ | ⟨a, len, cap, m, Sx, hcs, _, hl, _, hmm, _, hc⟩
  · simp at hcs
    subst hcs
    exact ⟨0, fun _ => ByteArray.empty, Row.nil _ _ _⟩
  · simp at hcs
    subst hcs
    simp at hmm
    subst hmm
    exact ⟨len, Sx, Row.ofAdd fun i hi => (hc i (by omega)).1⟩

theorem open_row33 (h : DataW.trod enc Try.prog w 0 (fun _ => true) true fuel 33 [v] = some x) : ∃ (n : Nat) (T : Nat → Int), n ≤ maxLen ∧ Row w 0 v n fun i => .int .i64 (T i) := by
  rcases open_ints Try.underlying33 Try.underlying2 Try.cells2 h with ⟨hcs, _⟩ | ⟨a, len, cap, zs, hcs, _, hl, hm, hz, _, hc, _⟩
  · simp at hcs
    subst hcs
    exact ⟨0, fun _ => 0, Nat.zero_le _, Row.nil _ _ _⟩
  · simp at hcs
    subst hcs
    simp at hz
    exact ⟨len, fun i => zs.getD i 0, by omega, Row.ofAdd fun i hi => hc i (by omega)⟩

theorem open_mat32 (h : DataW.trod enc Try.prog w 0 (fun _ => true) true fuel 32 [v] = some x) : ∃ n V L S, Mat w 0 v n V L S := by
  rcases open_slice1 Try.underlying32 Try.cells31 h with ⟨hcs, _⟩ | ⟨a, len, cap, m, k, V, D, Pl, hcs, _, hl, _, hmm, _, hc⟩
  · simp at hcs
    subst hcs
    exact ⟨0, fun _ => .slice none 0 0, fun _ => 0, fun _ _ => ByteArray.empty, Row.nil _ _ _, fun r hr => absurd hr (Nat.not_lt_zero _)⟩
  · simp at hcs
    subst hcs
    simp at hmm
    subst hmm
    have each : ∀ r, r < len → ∃ y : Nat × (Nat → ByteArray), Row w 0 (V r) y.1 fun j => .string (y.2 j) := fun r hr => by
      obtain ⟨n, p, hp⟩ := open_row31 (hc r (by omega)).2
      exact ⟨(n, p), hp⟩
    obtain ⟨y, hy⟩ := choose_lt each
    exact ⟨len, V, fun r => (y r).1, fun r => (y r).2, Row.ofAdd fun i hi => (hc i (by omega)).1, fun r hr => hy r hr⟩

end
end Go.Proofs.Qxb6000533a
