/-
  THE PLAIN LAW: five groups of hex digits, 8-4-4-4-12, joined by hyphens, measured group by group, are the 36 bytes judged place by place. No Go in sight.
-/
import Derived.WalkKit
namespace Go.Proofs.Qxb6001145a

/-- Is c a hex digit? -/
def hexI (c : Int) : Bool := decide (48 ≤ c ∧ c ≤ 57) || decide (97 ≤ c ∧ c ≤ 102) || decide (65 ≤ c ∧ c ≤ 70)

theorem hexI_iff (c : Int) : hexI c = true ↔ (48 ≤ c ∧ c ≤ 57) ∨ (97 ≤ c ∧ c ≤ 102) ∨ (65 ≤ c ∧ c ≤ 70) := by
  simp [hexI, or_assoc]
theorem hexI_no (c : Int) : hexI c = false ↔ ¬ ((48 ≤ c ∧ c ≤ 57) ∨ (97 ≤ c ∧ c ≤ 102) ∨ (65 ≤ c ∧ c ≤ 70)) := by
  rw [← hexI_iff]; simp

/-- The place k of a UUID's text holds what it should. -/
def okAt (f : Nat → Int) (k : Nat) : Prop := ((k = 8 ∨ k = 13 ∨ k = 18 ∨ k = 23) → f k = 45) ∧ (¬ (k = 8 ∨ k = 13 ∨ k = 18 ∨ k = 23) → hexI (f k) = true)

/-- n bytes f are a UUID's text. -/
def Uuid (n : Nat) (f : Nat → Int) : Prop := n = 36 ∧ ∀ k, k < 36 → okAt f k

/-- Where group g begins. -/
def off : Nat → Nat
  | 0 => 0
  | 1 => 9
  | 2 => 14
  | 3 => 19
  | _ => 24

/-- How long group g is. -/
def glen : Nat → Nat
  | 0 => 8
  | 1 => 4
  | 2 => 4
  | 3 => 4
  | _ => 12

/-- Is place i one of the hyphens ahead of group g? -/
def hyTo (g i : Nat) : Prop := (i = 8 ∧ 0 < g) ∨ (i = 13 ∧ 1 < g) ∨ (i = 18 ∧ 2 < g) ∨ (i = 23 ∧ 3 < g)

/-- k bytes are read, none refused: g hyphens are met, r digits behind the last. -/
structure Read (f : Nat → Int) (k g r : Nat) : Prop where
  g4 : g ≤ 4
  r12 : r ≤ 12
  at' : k = off g + r
  hy : ∀ i, i < k → hyTo g i → f i = 45
  hex : ∀ i, i < k → ¬ hyTo g i → hexI (f i) = true

theorem Read.start (f : Nat → Int) : Read f 0 0 0 := ⟨by omega, by omega, rfl, fun i hi => absurd hi (Nat.not_lt_zero _), fun i hi => absurd hi (Nat.not_lt_zero _)⟩

theorem hex45 : hexI 45 = false := by decide

/-- Of a UUID's text: behind a hyphen's place that hyphen has been met. -/
theorem Read.met {f : Nat → Int} {n k g r : Nat} (h : Read f k g r) (u : Uuid n f) : (8 < k → 8 < 36 → 0 < g) ∧ (13 < k → 1 < g) ∧ (18 < k → 2 < g) ∧ (23 < k → 3 < g) := by
  have key : ∀ p, p < 36 → (p = 8 ∨ p = 13 ∨ p = 18 ∨ p = 23) → p < k → hyTo g p := fun p h36 hp hk => by
    by_cases e : hyTo g p
    · exact e
    · have h1 := h.hex p hk e
      rw [(u.2 p h36).1 hp, hex45] at h1
      cases h1
  refine ⟨fun hk _ => ?_, fun hk => ?_, fun hk => ?_, fun hk => ?_⟩
  · have := key 8 (by omega) (by omega) hk; unfold hyTo at this; omega
  · have := key 13 (by omega) (by omega) hk; unfold hyTo at this; omega
  · have := key 18 (by omega) (by omega) hk; unfold hyTo at this; omega
  · have := key 23 (by omega) (by omega) hk; unfold hyTo at this; omega

theorem g_cases {g : Nat} (h : g ≤ 4) : g = 0 ∨ g = 1 ∨ g = 2 ∨ g = 3 ∨ g = 4 := by omega

/-- A hyphen that comes too early, too late or a fifth time. -/
theorem Read.badHyphen {f : Nat → Int} {n k g r : Nat} (h : Read f k g r) (hk : k < n) (hc : f k = 45) (hb : 4 ≤ g ∨ r ≠ glen g) : ¬ Uuid n f := by
  intro u
  have hm := h.met u
  have hn := u.1
  have hp : k = 8 ∨ k = 13 ∨ k = 18 ∨ k = 23 := by
    by_cases e : k = 8 ∨ k = 13 ∨ k = 18 ∨ k = 23
    · exact e
    · have h1 := (u.2 k (by omega)).2 e
      rw [hc, hex45] at h1
      cases h1
  have ha := h.at'
  rcases g_cases h.g4 with rfl | rfl | rfl | rfl | rfl <;> simp only [off, glen] at ha hb <;> omega

/-- Neither a hyphen nor a hex digit. -/
theorem Read.badByte {f : Nat → Int} {n k g r : Nat} (h : Read f k g r) (hk : k < n) (hc : f k ≠ 45) (hb : hexI (f k) = false) : ¬ Uuid n f := by
  intro u
  have hn := u.1
  have _ := h.g4
  by_cases e : k = 8 ∨ k = 13 ∨ k = 18 ∨ k = 23
  · exact hc ((u.2 k (by omega)).1 e)
  · have h1 := (u.2 k (by omega)).2 e
    rw [hb] at h1
    cases h1

/-- A thirteenth digit. -/
theorem Read.tooLong {f : Nat → Int} {n k g r : Nat} (h : Read f k g r) (hk : k < n) (hr : r = 12) : ¬ Uuid n f := by
  intro u
  have hm := h.met u
  have hn := u.1
  have ha := h.at'
  rcases g_cases h.g4 with rfl | rfl | rfl | rfl | rfl <;> simp only [off] at ha <;> omega

theorem Read.hyphen {f : Nat → Int} {k g r : Nat} (h : Read f k g r) (hc : f k = 45) (hg : g < 4) (hr : r = glen g) : Read f (k + 1) (g + 1) 0 := by
  have ha := h.at'
  refine ⟨by omega, by omega, ?_, fun i hi hy => ?_, fun i hi hy => ?_⟩
  · rcases g_cases h.g4 with rfl | rfl | rfl | rfl | rfl <;> simp only [off, glen] at * <;> omega
  · by_cases e : i = k
    · subst e; exact hc
    · refine h.hy i (by omega) ?_
      rcases g_cases h.g4 with rfl | rfl | rfl | rfl | rfl <;> simp only [off, glen, hyTo] at * <;> omega
  · by_cases e : i = k
    · subst e
      exfalso
      apply hy
      rcases g_cases h.g4 with rfl | rfl | rfl | rfl | rfl <;> simp only [off, glen, hyTo] at * <;> omega
    · refine h.hex i (by omega) ?_
      intro hh
      apply hy
      unfold hyTo at *
      omega

theorem Read.digit {f : Nat → Int} {k g r : Nat} (h : Read f k g r) (hc : hexI (f k) = true) (hr : r < 12) : Read f (k + 1) g (r + 1) := by
  have ha := h.at'
  refine ⟨h.g4, by omega, by omega, fun i hi hy => ?_, fun i hi hy => ?_⟩
  · by_cases e : i = k
    · subst e
      exfalso
      rcases g_cases h.g4 with rfl | rfl | rfl | rfl | rfl <;> simp only [off, hyTo] at * <;> omega
    · exact h.hy i (by omega) hy
  · by_cases e : i = k
    · subst e; exact hc
    · exact h.hex i (by omega) hy

theorem Read.final {f : Nat → Int} {n g r : Nat} (h : Read f n g r) : (g = 4 ∧ r = 12) ↔ Uuid n f := by
  have ha := h.at'
  have hr := h.r12
  constructor
  · rintro ⟨rfl, rfl⟩
    simp only [off] at ha
    refine ⟨ha, fun k hk => ⟨fun e => h.hy k (by omega) ?_, fun e => h.hex k (by omega) ?_⟩⟩ <;> unfold hyTo <;> omega
  · intro u
    have hn := u.1
    rcases g_cases h.g4 with rfl | rfl | rfl | rfl | rfl <;> simp only [off] at ha <;> omega

end Go.Proofs.Qxb6001145a
