import Derived.Test.Qxb6000533aCopy
namespace Go.Proofs.Qxb6000533a
open Go.RowKit Go.Deep

/-! ### slices.Clone at []string -/

theorem clone_nil (w : World) : Calls Try.prog 33 #[.slice none 0 0] w fun e w' => e = .returned (.slice none 0 0) ∧ w' = w := by
  have hnil := eq31
  go_enter Try.func33, Try.ntmps33
  go_wp2
  go_ret
  exact ⟨rfl, rfl⟩

theorem clone_some (ad : Addr) (b o n cap : Nat) (S : Nat → ByteArray) (w : World) (ha : 0 < n → ad = ⟨b, o, none⟩) (hn : n ≤ 1048576)
    (hc : ∀ i, i < n → w.cell? ⟨b, o + i, none⟩ = some (.string (S i))) :
    Calls Try.prog 33 #[.slice (some ad) n cap] w fun e w' => ∃ v', e = .returned v' ∧ nilB v' = false ∧ w.Since w.heap.size w' ∧ Own w' w.heap.size v' n fun i => .string (S i) := by
  have hnil := eq31
  obtain ⟨i0, hi, hz0, hz1, hz2⟩ := info_parts Try.info9
  have hown : (w.alloc (.cells #[] 9)).ownsRow w.heap.size 9 1 (.slice (some ⟨w.heap.size, 0, none⟩) 0 0) 0 [] :=
    ⟨rfl, Or.inr ⟨w.heap.size, 0, #[], rfl, Nat.le_refl _, blk_alloc_new _ _, Nat.le_refl _, Nat.zero_le _, rfl, rfl⟩⟩
  have hnews : ∀ j u, ((List.range n).map fun i => Value.string (S i))[j]? = some u → (w.alloc (.cells #[] 9)).cell? (ad.add j) = some u := by
    intro j u hj
    have hjn : j < n := by
      by_cases h : j < n
      · exact h
      · simp [h] at hj
    simp [hjn] at hj
    subst hj
    obtain rfl := ha (by omega)
    have hb := World.block_lt_of_cell? _ _ (hc j hjn)
    rw [show (⟨b, o, none⟩ : Addr).add j = ⟨b, o + j, none⟩ from addPlain b o j]
    rw [World.cell?_alloc_old _ _ _ (by show b ≠ w.heap.size; exact Nat.ne_of_lt hb)]
    exact hc j hjn
  have hone : ∀ u ∈ ((List.range n).map fun i => Value.string (S i)), u.oneCell' = true := by
    intro u hu
    obtain ⟨i, _, rfl⟩ := List.mem_map.1 hu
    rfl
  have hfin : ∀ (v' : Value) (w1 : World), w1.ownsRow w.heap.size 9 1 v' (0 + n) ([] ++ (List.range n).map fun i => Value.string (S i)) → (w.alloc (.cells #[] 9)).grownBy w1 (some w.heap.size) → v' ≠ .slice none 0 0 →
      nilB v' = false ∧ w.Since w.heap.size w1 ∧ Own w1 w.heap.size v' n fun i => .string (S i) := by
    intro v' w1 h1 h2 h3
    rw [Nat.zero_add, List.nil_append] at h1
    obtain ⟨g, cap', rfl, hg, hlt, hcs⟩ := Own.ofRow h1 h3
    exact ⟨rfl, ((World.Since.refl _ w).alloc (Nat.le_refl _) _).grown h2 (by simp) (fun k e => by cases e; exact Nat.le_refl _), Or.inr ⟨g, cap', rfl, hg, hlt, hcs⟩⟩
  clear hc
  go_enter Try.func33, Try.ntmps33
  go_wp2_with (at_builtin; refine wpList_append_own _ rfl _ _ 31 rfl w.heap.size 9 i0 (.string ByteArray.empty) 1 16 Try.underlying31 hi hz0 hz1 hz2 rfl (by decide) _ _ _ rfl hown ad n cap ((List.range n).map fun i => .string (S i)) rfl (by simp) hnews hone (by unfold maxLen; omega) (by omega) (by simp) ?_; intro v' w1 hown1 hgrow hiff)
  have h3 : v' ≠ .slice none 0 0 := fun e => by have h := (hiff.1 e).1; exact absurd (show Value.slice (some ⟨w.heap.size, 0, none⟩) 0 0 = Value.slice none 0 0 from h) (by simp)
  have hf := hfin v' w1 hown1 hgrow h3
  clear hown1 hgrow hiff hfin hnews hone hown
  go_wp2
  go_ret
  exact ⟨_, rfl, hf⟩

theorem clone_any {w : World} {lo n : Nat} {v : Value} {S : Nat → ByteArray} (h : Row w lo v n fun i => .string (S i)) (hn : n ≤ 1048576) :
    Calls Try.prog 33 #[v] w fun e w' => ∃ v', e = .returned v' ∧ nilB v' = nilB v ∧ w.Since w.heap.size w' ∧ Own w' w.heap.size v' n fun i => .string (S i) := by
  obtain ⟨a, b, o, cap, rfl, h0, ha, hc⟩ := h
  cases a with
  | none =>
    obtain ⟨rfl, rfl⟩ := h0 rfl
    refine (clone_nil w).mono fun e w' ⟨he, hw⟩ => ?_
    subst he hw
    exact ⟨_, rfl, rfl, World.Since.refl _ _, Or.inl ⟨rfl, rfl⟩⟩
  | some ad =>
    refine (clone_some ad b o n cap S w (fun h => by simpa using (ha h).1) hn hc).mono fun e w' ⟨v', he, h1, h2, h3⟩ => ?_
    exact ⟨_, he, h1, h2, h3⟩

end Go.Proofs.Qxb6000533a
