import Derived.Test.Qxb6000533aEquals
namespace Go.Proofs.Qxb6000533a
open Go.RowKit Go.Deep

/-- A '[]string' of the call's own, its strings no longer than 'bound', whatever they are. -/
def Loose (w : World) (lo : Nat) (v : Value) (n bound : Nat) : Prop :=
  (v = .slice none 0 0 ∧ n = 0) ∨ ∃ g cap, v = .slice (some ⟨g, 0, none⟩) n cap ∧ lo ≤ g ∧ ∀ i, i < n → (∃ s, w.cell? ⟨g, i, none⟩ = some (.string s) ∧ s.size ≤ bound) ∧ w.frozen? ⟨g, i, none⟩ = false

theorem Loose.ofOwn {w : World} {lo n bound : Nat} {v : Value} {S : Nat → ByteArray} (h : Own w lo v n fun j => .string (S j)) (hb : ∀ j, j < n → (S j).size ≤ bound) : Loose w lo v n bound := by
  rcases h with h | ⟨g, cap, hv, hg, _, hc⟩
  · exact Or.inl h
  · exact Or.inr ⟨g, cap, hv, hg, fun i hi => ⟨⟨_, (hc i hi).1, hb i hi⟩, (hc i hi).2⟩⟩

theorem Loose.mono {w : World} {lo n bound bound' : Nat} {v : Value} (h : Loose w lo v n bound) (hb : bound ≤ bound') : Loose w lo v n bound' := by
  rcases h with h | ⟨g, cap, hv, hg, hc⟩
  · exact Or.inl h
  · refine Or.inr ⟨g, cap, hv, hg, fun i hi => ?_⟩
    obtain ⟨⟨s, h1, h2⟩, h3⟩ := hc i hi
    exact ⟨⟨s, h1, by omega⟩, h3⟩

/-- A string stored over a string, wherever. -/
theorem Loose.set {w : World} {lo n bound bound' : Nat} {v : Value} (h : Loose w lo v n bound) {p : Addr} {s : ByteArray} {u : Value} (hp : w.cell? p = some u) (hs : s.size ≤ bound') (hb : bound ≤ bound') : Loose (w.setCell p (.string s)) lo v n bound' := by
  rcases h with h | ⟨g, cap, hv, hg, hc⟩
  · exact Or.inl h
  · refine Or.inr ⟨g, cap, hv, hg, fun i hi => ?_⟩
    obtain ⟨⟨x, h1, h2⟩, h3⟩ := hc i hi
    refine ⟨?_, by rw [World.frozen?_setCell]; exact h3⟩
    by_cases e : p = ⟨g, i, none⟩
    · subst e
      exact ⟨s, World.cell?_setCell_same _ _ _ hp, hs⟩
    · exact ⟨x, by rw [World.cell?_setCell_other _ _ _ _ e]; exact h1, by omega⟩

/-- While the clones are overwritten: below 'B' nothing has turned; the clones' own array is as it was; their Args hold some strings. -/
structure Spoilt (w wx : World) (n bound : Nat) (p : Nat → ByteArray) (U : Nat → Value) (t : Nat → Int) (L : Nat → Nat) : Prop where
  since : w.Since w.heap.size wx
  top : wx.rowIs w.heap.size 42 (n * 3) (cells3 p U t)
  row : ∀ r, r < n → Loose wx (w.heap.size + 1) (U r) (L r) bound

theorem Spoilt.drewN {w wx : World} {n bound : Nat} {p : Nat → ByteArray} {U : Nat → Value} {t : Nat → Int} {L : Nat → Nat} (h : Spoilt w wx n bound p U t L) {bound' : Nat} (hb : bound ≤ bound') : Spoilt w wx n bound' p U t L :=
  ⟨h.since, h.top, fun r hr => (h.row r hr).mono hb⟩

theorem Spoilt.set {w wx : World} {n bound bound' : Nat} {p : Nat → ByteArray} {U : Nat → Value} {t : Nat → Int} {L : Nat → Nat} (h : Spoilt w wx n bound p U t L) {g j : Nat} {s : ByteArray} {u : Value}
    (hg : w.heap.size + 1 ≤ g) (hc : wx.cell? ⟨g, j, none⟩ = some u) (hs : s.size ≤ bound') (hb : bound ≤ bound') : Spoilt w (wx.setCell ⟨g, j, none⟩ (.string s)) n bound' p U t L :=
  ⟨h.since.setCell (by show w.heap.size ≤ g; omega) _, h.top.setOther (by show w.heap.size ≠ g; omega) _, fun r hr => (h.row r hr).set hc hs hb⟩

/-- ZZCloneCalls, no call or some. -/
theorem zzClone_any (w : World) (cg n cap : Nat) (p : Nat → ByteArray) (V : Nat → Value) (t : Nat → Int) (L : Nat → Nat) (S : Nat → Nat → ByteArray) (lo : Nat)
    (h : w.rowIs cg 42 (n * 3) (cells3 p V t)) (hV : ∀ r, r < n → Row w lo (V r) (L r) fun j => .string (S r j)) (hn : n ≤ 1048576) (hL : ∀ r, r < n → L r ≤ 1048576) (hS : ∀ r, r < n → ∀ j, j < L r → (S r j).size ≤ 1048576) :
    Calls Try.prog 22 #[.slice (some ⟨cg, 0, none⟩) n cap] w fun e w' => ∃ oa oc U, e = .returned (.slice oa n oc) ∧ w.Since w.heap.size w' ∧ (0 < n → oa = some ⟨w.heap.size, 0, none⟩ ∧ Spoilt w w' n 1048576 p U t L) := by
  by_cases h0 : 0 < n
  · refine (zzClone_some w cg n cap p V t L S lo h hV h0 hn hL).mono ?_
    rintro e w' ⟨U, rfl, hR⟩
    exact ⟨_, _, U, rfl, hR.since, fun _ => ⟨rfl, hR.since, rowIs_full hR.top, fun r hr => Loose.ofOwn (hR.row r hr) (hS r hr)⟩⟩
  · obtain rfl : n = 0 := by omega
    refine (zzClone_none _ _ _).mono ?_
    rintro e w' ⟨rfl, rfl⟩
    exact ⟨none, 0, V, rfl, World.Since.refl _ _, fun h => absurd h (Nat.lt_irrefl _)⟩


end Go.Proofs.Qxb6000533a
