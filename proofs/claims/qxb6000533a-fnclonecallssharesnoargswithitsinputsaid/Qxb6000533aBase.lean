/-
  THE WORDS OF THIS SEAT's PROOFS: a slice as the world holds it. No dump is read here.
-/
import Derived.WalkKit
import Derived.Deep.OwnRows
namespace Go.Proofs.Qxb6000533a
open Go.RowKit

/-- The slice value 'v' is of 'n' one-cell elements; element i lies in 'w' and holds 'f i'; where there is an element the array's block is 'lo' or later. -/
def Row (w : World) (lo : Nat) (v : Value) (n : Nat) (f : Nat → Value) : Prop :=
  ∃ (a : Option Addr) (b o cap : Nat), v = .slice a n cap ∧ (a = none → n = 0 ∧ cap = 0) ∧ (0 < n → a = some ⟨b, o, none⟩ ∧ lo ≤ b) ∧ ∀ i, i < n → w.cell? ⟨b, o + i, none⟩ = some (f i)

theorem addPlain (b o j : Nat) : (⟨b, o, none⟩ : Addr).add j = ⟨b, o + j, none⟩ := by
  unfold Addr.add
  by_cases h : j = 0 <;> simp [h]

/-- Is it the nil slice? -/
def nilB : Value → Bool
  | .slice none _ _ => true
  | _ => false

theorem Row.since {w w' : World} {lo n : Nat} {v : Value} {f : Nat → Value} (h : Row w lo v n f) (hs : w.Since w.heap.size w') : Row w' lo v n f := by
  obtain ⟨a, b, o, cap, hv, hn, ha, hc⟩ := h
  exact ⟨a, b, o, cap, hv, hn, ha, fun i hi => by rw [hs.cell (a := ⟨b, o + i, none⟩) (World.block_lt_of_cell? _ _ (hc i hi))]; exact hc i hi⟩

theorem Row.shape {w : World} {lo n : Nat} {v : Value} {f : Nat → Value} (h : Row w lo v n f) : ∃ a cap, v = .slice a n cap := by
  obtain ⟨a, _, _, cap, hv, _⟩ := h
  exact ⟨a, cap, hv⟩

theorem Row.mono {w : World} {lo lo' n : Nat} {v : Value} {f : Nat → Value} (h : Row w lo v n f) (hl : lo' ≤ lo) : Row w lo' v n f := by
  obtain ⟨a, b, o, cap, hv, hn, ha, hc⟩ := h
  exact ⟨a, b, o, cap, hv, hn, fun h0 => ⟨(ha h0).1, Nat.le_trans hl (ha h0).2⟩, hc⟩

theorem Row.congr {w : World} {lo n : Nat} {v : Value} {f g : Nat → Value} (h : Row w lo v n f) (e : ∀ i, i < n → f i = g i) : Row w lo v n g := by
  obtain ⟨a, b, o, cap, hv, hn, ha, hc⟩ := h
  exact ⟨a, b, o, cap, hv, hn, ha, fun i hi => by rw [hc i hi, e i hi]⟩

/-- A store below 'lo' leaves the row. -/
theorem Row.setCell {w : World} {lo n : Nat} {v : Value} {f : Nat → Value} (h : Row w lo v n f) {p : Addr} (hp : p.block < lo) (u : Value) : Row (w.setCell p u) lo v n f := by
  obtain ⟨a, b, o, cap, hv, hn, ha, hc⟩ := h
  refine ⟨a, b, o, cap, hv, hn, ha, fun i hi => ?_⟩
  have hb := (ha (by omega)).2
  rw [World.cell?_setCell_other _ _ _ _ (fun e => by have := congrArg Addr.block e; simp at this; omega)]
  exact hc i hi

theorem since_mono {B B' : Nat} {w w' : World} (h : w.Since B w') (hB : B' ≤ B) : w.Since B' w' := ⟨h.os, h.tape, h.output, h.size, fun k hk => h.block k (by omega)⟩

theorem Row.nil (w : World) (lo : Nat) (f : Nat → Value) : Row w lo (.slice none 0 0) 0 f :=
  ⟨none, 0, 0, 0, rfl, fun _ => ⟨rfl, rfl⟩, fun h => absurd h (Nat.lt_irrefl _), fun _ hi => absurd hi (Nat.not_lt_zero _)⟩

theorem Row.ofIs {w : World} {b t n : Nat} {f : Nat → Value} (h : w.rowIs b t n f) {lo : Nat} (hl : lo ≤ b) (cap : Nat) : Row w lo (.slice (some ⟨b, 0, none⟩) n cap) n f :=
  ⟨_, b, 0, cap, rfl, (fun e => by cases e), fun _ => ⟨rfl, hl⟩, fun i hi => by rw [Nat.zero_add]; exact h.cell hi⟩

/-- A slice whose array may be WRITTEN: nil, or at the head of a block from 'lo' on, none of its cells frozen. -/
def Own (w : World) (lo : Nat) (v : Value) (n : Nat) (f : Nat → Value) : Prop :=
  (v = .slice none 0 0 ∧ n = 0) ∨ ∃ g cap, v = .slice (some ⟨g, 0, none⟩) n cap ∧ lo ≤ g ∧ g < w.heap.size ∧ ∀ i, i < n → w.cell? ⟨g, i, none⟩ = some (f i) ∧ w.frozen? ⟨g, i, none⟩ = false

theorem Own.row {w : World} {lo n : Nat} {v : Value} {f : Nat → Value} (h : Own w lo v n f) : Row w lo v n f := by
  rcases h with ⟨rfl, rfl⟩ | ⟨g, cap, rfl, hg, _, hc⟩
  · exact Row.nil _ _ _
  · exact ⟨_, g, 0, cap, rfl, (fun e => by cases e), fun _ => ⟨rfl, hg⟩, fun i hi => by rw [Nat.zero_add]; exact (hc i hi).1⟩

theorem Own.ofRow {w : World} {base e n : Nat} {v : Value} {f : Nat → Value} (h : w.ownsRow base e 1 v n ((List.range n).map f)) (hv : v ≠ .slice none 0 0) :
    ∃ g cap, v = .slice (some ⟨g, 0, none⟩) n cap ∧ base ≤ g ∧ g < w.heap.size ∧ ∀ i, i < n → w.cell? ⟨g, i, none⟩ = some (f i) ∧ w.frozen? ⟨g, i, none⟩ = false := by
  obtain ⟨hl, h1 | ⟨g, cap, cur, rfl, hg, hh, hc1, _, hc3, hc4⟩⟩ := h
  · exact absurd h1.1 hv
  · obtain ⟨hlt, _⟩ := Array.getElem?_eq_some_iff.1 hh
    refine ⟨g, cap, rfl, hg, hlt, fun i hi => ⟨?_, by simp [World.frozen?, hh]⟩⟩
    have h2 : (cur.toList.take (n * 1))[i]? = some (f i) := by rw [hc4]; simp [hi]
    rw [List.getElem?_take_of_lt (by omega)] at h2
    simp [World.cell?, hh]
    simpa using h2

theorem Own.since {w w' : World} {lo n : Nat} {v : Value} {f : Nat → Value} (h : Own w lo v n f) (hs : w.Since w.heap.size w') : Own w' lo v n f := by
  rcases h with h | ⟨g, cap, hv, hg, hlt, hc⟩
  · exact Or.inl h
  · exact Or.inr ⟨g, cap, hv, hg, Nat.lt_of_lt_of_le hlt hs.size, fun i hi => ⟨(hs.cell (a := ⟨g, i, none⟩) hlt).trans (hc i hi).1, (hs.frozen (a := ⟨g, i, none⟩) hlt).trans (hc i hi).2⟩⟩

theorem Own.shape {w : World} {lo n : Nat} {v : Value} {f : Nat → Value} (h : Own w lo v n f) : ∃ a cap, v = .slice a n cap := h.row.shape

/-- A store elsewhere: below 'lo'. -/
theorem Own.setCells {w w' : World} {lo n : Nat} {v : Value} {f : Nat → Value} (h : Own w lo v n f) (hz : w'.heap.size = w.heap.size) (hs : ∀ k, lo ≤ k → w'.heap[k]? = w.heap[k]?) : Own w' lo v n f := by
  rcases h with h | ⟨g, cap, hv, hg, hlt, hc⟩
  · exact Or.inl h
  · exact Or.inr ⟨g, cap, hv, hg, by omega, fun i hi => ⟨(World.cell?_of_block (a := ⟨g, i, none⟩) (hs g hg)).trans (hc i hi).1, (World.frozen?_of_block (a := ⟨g, i, none⟩) (hs g hg)).trans (hc i hi).2⟩⟩

end Go.Proofs.Qxb6000533a
