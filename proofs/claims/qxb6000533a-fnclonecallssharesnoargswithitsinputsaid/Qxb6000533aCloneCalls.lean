import Derived.Test.Qxb6000533aBuild
import Derived.Deep.RegionHeld3
namespace Go.Proofs.Qxb6000533a
open Go.RowKit Go.Deep

/-! ### cloneCalls -/

theorem cloneCalls_none (a : Option Addr) (cap : Nat) (w : World) : Calls Try.prog 30 #[.slice a 0 cap] w fun e w' => e = .returned (.slice none 0 0) ∧ w' = w := by
  go_enter Try.func30, Try.ntmps30
  go_wp2
  go_ret
  exact ⟨rfl, rfl⟩

theorem cell_laid (w : World) (c : Array Value) (t : TypeId) (i : Nat) (v : Value) (h : c[i]? = some v) : (w.alloc (.cells c t)).drew.cell? ⟨w.heap.size, i, none⟩ = some v := by
  show (w.alloc (.cells c t)).cell? ⟨w.heap.size, i, none⟩ = some v
  unfold World.cell?
  simp only [blk_alloc_new]
  exact h

/-- k calls are cloned: 'U r' are the clone's Args. -/
structure CloneRel (w wr : World) (n k : Nat) (p : Nat → ByteArray) (V U : Nat → Value) (t : Nat → Int) (L : Nat → Nat) (S : Nat → Nat → ByteArray) : Prop where
  since : w.Since w.heap.size wr
  lt : w.heap.size < wr.heap.size
  top : wr.rowIs w.heap.size 42 (n * 3) (cells3 (upTo k p ByteArray.empty) (upTo k U (.slice none 0 0)) (upTo k t 0))
  row : ∀ r, r < k → Own wr (w.heap.size + 1) (U r) (L r) fun j => .string (S r j)
  nils : ∀ r, r < k → nilB (U r) = nilB (V r)

/-- A round: the call's own box is laid and filled; Clone makes the new Args; the new call is stored. -/
theorem CloneRel.step {w wr wb w1 : World} {n k : Nat} {p : Nat → ByteArray} {V U : Nat → Value} {t : Nat → Int} {L : Nat → Nat} {S : Nat → Nat → ByteArray} (h : CloneRel w wr n k p V U t L S) {u : Value}
    (hb : wr.Since wr.heap.size wb) (hs : wb.Since wb.heap.size w1) (hr : Own w1 wb.heap.size u (L k) fun j => .string (S k j)) (hu : nilB u = nilB (V k)) :
    CloneRel w (((w1.setCell ⟨w.heap.size, k * 3, none⟩ (.string (p k))).setCell ⟨w.heap.size, k * 3 + 1, none⟩ u).setCell ⟨w.heap.size, k * 3 + 2, none⟩ (.int .i64 (t k))) n (k + 1) p V (upd U k u) t L S := by
  have hlt := h.lt
  have hsz := hs.size
  have hbz := hb.size
  have hsw : wr.Since wr.heap.size w1 := hb.trans (since_mono hs hbz)
  have hUk : ∀ r, r < k → upd U k u r = U r := fun r hr => by simp [upd, Nat.ne_of_lt hr]
  have ht : w1.rowIs w.heap.size 42 (n * 3) (cells3 (upTo k p ByteArray.empty) (upTo k (upd U k u) (.slice none 0 0)) (upTo k t 0)) := by
    have e : upTo k (upd U k u) (.slice none 0 0) = upTo k U (.slice none 0 0) := by
      funext r
      unfold upTo
      by_cases hr : r < k
      · simp [hr, hUk r hr]
      · simp [hr]
    rw [e]
    exact h.top.of_block (hsw.block _ hlt)
  have hz3 : ∀ a1 a2 a3 v1 v2 v3, (((w1.setCell a1 v1).setCell a2 v2).setCell a3 v3).heap.size = w1.heap.size := fun _ _ _ _ _ _ => by simp
  have hb3 : ∀ x, w.heap.size + 1 ≤ x → (((w1.setCell ⟨w.heap.size, k * 3, none⟩ (.string (p k))).setCell ⟨w.heap.size, k * 3 + 1, none⟩ u).setCell ⟨w.heap.size, k * 3 + 2, none⟩ (.int .i64 (t k))).heap[x]? = w1.heap[x]? := fun x hx => by
    rw [blk_setCell_other _ _ _ _ (by show x ≠ w.heap.size; omega), blk_setCell_other _ _ _ _ (by show x ≠ w.heap.size; omega), blk_setCell_other _ _ _ _ (by show x ≠ w.heap.size; omega)]
  refine ⟨(((h.since.trans (since_mono hsw (Nat.le_of_lt hlt))).setCell (Nat.le_refl _) _).setCell (Nat.le_refl _) _).setCell (Nat.le_refl _) _, by rw [hz3]; omega, rowIs_next ht rfl (by simp [upd]) rfl, ?_, ?_⟩
  · intro r hr1
    by_cases e : r = k
    · subst e
      have h2 : upd U r u r = u := by simp [upd]
      rw [h2]
      refine Own.setCells ?_ (hz3 _ _ _ _ _ _) hb3
      rcases hr with h3 | ⟨g, cap, h4, h5, h6⟩
      · exact Or.inl h3
      · exact Or.inr ⟨g, cap, h4, by omega, h6⟩
    · rw [hUk r (by omega)]
      exact ((h.row r (by omega)).since hsw).setCells (hz3 _ _ _ _ _ _) hb3
  · intro r hr1
    by_cases e : r = k
    · subst e; simpa [upd] using hu
    · rw [hUk r (by omega)]; exact h.nils r (by omega)

set_option maxHeartbeats 800000 in
theorem cloneCalls_some (w : World) (cg n cap : Nat) (p : Nat → ByteArray) (V : Nat → Value) (t : Nat → Int) (L : Nat → Nat) (S : Nat → Nat → ByteArray) (lo : Nat)
    (h : w.rowIs cg 42 (n * 3) (cells3 p V t)) (hV : ∀ r, r < n → Row w lo (V r) (L r) fun j => .string (S r j)) (h0 : 0 < n) (hn : n ≤ 1048576) (hL : ∀ r, r < n → L r ≤ 1048576) :
    Calls Try.prog 30 #[.slice (some ⟨cg, 0, none⟩) n cap] w fun e w' => ∃ U, e = .returned (.slice (some ⟨w.heap.size, 0, none⟩) n n) ∧ CloneRel w w' n n p V U t L S := by
  have hmk := run_make_calls n hn
  have h0z : ((n : Int) == 0) = false := by simp; omega
  go_enter Try.func30, Try.ntmps30
  go_wp2
  clear hmk
  go_loopg [14] n (fun g i wr => ∃ k : Nat, k ≤ n ∧ g = n - k ∧ i = .int .i64 k ∧ ∃ U, CloneRel w wr n k p V U t L S)
  case atStart => exact ⟨0, Nat.zero_le _, rfl, rfl, fun _ => .slice none 0 0, (World.Since.refl _ _).alloc (Nat.le_refl _) _, by simp, by rw [upTo_zero, upTo_zero, upTo_zero]; exact rowIs_madeCalls w n, fun r hr => absurd hr (Nat.not_lt_zero _), fun r hr => absurd hr (Nat.not_lt_zero _)⟩
  case round =>
    obtain ⟨k, hk, rfl, rfl, U, hR⟩ := hrel
    by_cases hlt : k < n
    · have hkz : (k : Int) < (n : Int) := by omega
      have hb := h.lt
      obtain ⟨ra, rc, hv⟩ := (hV k hlt).shape
      have c1 : wr.cell? ⟨cg, k * 3, none⟩ = some (.string (p k)) := by rw [hR.since.cell (a := ⟨cg, k * 3, none⟩) hb, h.cell (i := k * 3) (by omega), cells3_0]
      have c2 : wr.cell? ⟨cg, k * 3 + 1, none⟩ = some (.slice ra (L k) rc) := by rw [hR.since.cell (a := ⟨cg, k * 3 + 1, none⟩) hb, h.cell (i := k * 3 + 1) (by omega), cells3_1, hv]
      have c3 : wr.cell? ⟨cg, k * 3 + 2, none⟩ = some (.int .i64 (t k)) := by rw [hR.since.cell (a := ⟨cg, k * 3 + 2, none⟩) hb, h.cell (i := k * 3 + 2) (by omega), cells3_2]
      have hVk := ((hV k hlt).since hR.since).since (((World.Since.refl _ wr).alloc (Nat.le_refl _) (.cells #[.string (p k), .slice ra (L k) rc, .int .i64 (t k)] 42)).drew)
      have hcall := clone_any hVk (hL k hlt)
      rw [hv] at hcall
      have hlt2 := hR.lt
      have hne : wr.heap.size ≠ w.heap.size := by omega
      have hne' : w.heap.size ≠ wr.heap.size := by omega
      have hkeep : ∀ w1, (wr.alloc (.cells #[.string (p k), .slice ra (L k) rc, .int .i64 (t k)] 42)).drew.Since (wr.alloc (.cells #[.string (p k), .slice ra (L k) rc, .int .i64 (t k)] 42)).drew.heap.size w1 →
          w1.cell? ⟨wr.heap.size, 0, none⟩ = some (.string (p k)) ∧ w1.cell? ⟨wr.heap.size, 1, none⟩ = some (.slice ra (L k) rc) ∧ w1.cell? ⟨wr.heap.size, 2, none⟩ = some (.int .i64 (t k)) ∧
          w1.cell? ⟨w.heap.size, k * 3, none⟩ = some (.string (upTo k p ByteArray.empty k)) ∧ w1.cell? ⟨w.heap.size, k * 3 + 1, none⟩ = some (upTo k U (.slice none 0 0) k) ∧ w1.cell? ⟨w.heap.size, k * 3 + 2, none⟩ = some (.int .i64 (upTo k t 0 k)) ∧
          w1.frozen? ⟨w.heap.size, k * 3, none⟩ = false ∧ w1.frozen? ⟨w.heap.size, k * 3 + 1, none⟩ = false ∧ w1.frozen? ⟨w.heap.size, k * 3 + 2, none⟩ = false := by
        intro w1 hs1
        have ht := ((hR.top.alloc (.cells #[.string (p k), .slice ra (L k) rc, .int .i64 (t k)] 42)).drew).of_block (hs1.block _ (by simp; omega))
        have ht0 := ht.cell (i := k * 3) (by omega)
        have ht1 := ht.cell (i := k * 3 + 1) (by omega)
        have ht2 := ht.cell (i := k * 3 + 2) (by omega)
        rw [cells3_0] at ht0
        rw [cells3_1] at ht1
        rw [cells3_2] at ht2
        refine ⟨?_, ?_, ?_, ht0, ht1, ht2, ht.frozen _, ht.frozen _, ht.frozen _⟩
        · rw [hs1.cell (a := ⟨wr.heap.size, 0, none⟩) (by simp)]; exact cell_laid _ _ _ _ _ rfl
        · rw [hs1.cell (a := ⟨wr.heap.size, 1, none⟩) (by simp)]; exact cell_laid _ _ _ _ _ rfl
        · rw [hs1.cell (a := ⟨wr.heap.size, 2, none⟩) (by simp)]; exact cell_laid _ _ _ _ _ rfl
      go_wp2
      go_region_held3 (fun w' => w'.cell? ⟨wr.heap.size, 0, none⟩ = some (.string (p k)) ∧ w'.cell? ⟨wr.heap.size, 1, none⟩ = some (.slice ra (L k) rc) ∧ w'.cell? ⟨wr.heap.size, 2, none⟩ = some (.int .i64 (t k))) (go_keep)
        (first | (go_at_call 33; refine hcall.mono ?_; rintro e w1 ⟨u, rfl, hu, hs1, hr1⟩; obtain ⟨ua, ucap, rfl⟩ := hr1.shape; obtain ⟨k0, k1, k2, k3, k4, k5, k6, k7, k8⟩ := hkeep w1 hs1))
      clear hkeep hcall
      go_wp2
      go_roundg (n - (k + 1))
      case measure => omega
      case rel => exact ⟨k + 1, by omega, rfl, by go_num, _, hR.step (((World.Since.refl _ wr).alloc (Nat.le_refl _) _).drew) hs1 hr1 (by rw [hu, hv])⟩
    · go_wp2
      go_ret
      obtain rfl : k = n := by omega
      exact ⟨U, rfl, hR⟩

/-- ZZCloneCalls at no call. -/
theorem zzClone_none (a : Option Addr) (cap : Nat) (w : World) : Calls Try.prog 22 #[.slice a 0 cap] w fun e w' => e = .returned (.slice none 0 0) ∧ w' = w := by
  go_enter Try.func22, Try.ntmps22
  go_wp2_with (go_at_call 30; refine (cloneCalls_none _ _ _).mono ?_; rintro e w' ⟨rfl, rfl⟩)
  go_ret
  exact ⟨rfl, rfl⟩

theorem zzClone_some (w : World) (cg n cap : Nat) (p : Nat → ByteArray) (V : Nat → Value) (t : Nat → Int) (L : Nat → Nat) (S : Nat → Nat → ByteArray) (lo : Nat)
    (h : w.rowIs cg 42 (n * 3) (cells3 p V t)) (hV : ∀ r, r < n → Row w lo (V r) (L r) fun j => .string (S r j)) (h0 : 0 < n) (hn : n ≤ 1048576) (hL : ∀ r, r < n → L r ≤ 1048576) :
    Calls Try.prog 22 #[.slice (some ⟨cg, 0, none⟩) n cap] w fun e w' => ∃ U, e = .returned (.slice (some ⟨w.heap.size, 0, none⟩) n n) ∧ CloneRel w w' n n p V U t L S := by
  have hcall := cloneCalls_some w cg n cap p V t L S lo h hV h0 hn hL
  clear h hV hL
  go_enter Try.func22, Try.ntmps22
  go_wp2_with (go_at_call 30; refine hcall.mono ?_; rintro e w' ⟨U, rfl, hR⟩)
  go_ret
  exact ⟨U, rfl, hR⟩

end Go.Proofs.Qxb6000533a
