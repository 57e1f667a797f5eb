import Derived.Test.Qxb6000533aClone
namespace Go.Proofs.Qxb6000533a
open Go.RowKit Go.Deep

theorem Try.info42 : (Try.prog.info? 42).map (fun i => (i.zero, i.size, i.bytes)) = some (some (.agg #[.string ByteArray.empty, .slice none 0 0, .int .i64 0]), 3, 48) := by kernel_rfl

/-- Three cells a call: its Proc, its Args, its Stamp. -/
def cells3 (p : Nat → ByteArray) (v : Nat → Value) (t : Nat → Int) (x : Nat) : Value :=
  if x % 3 = 0 then .string (p (x / 3)) else if x % 3 = 1 then v (x / 3) else .int .i64 (t (x / 3))

def upd {α : Type} (f : Nat → α) (k : Nat) (a : α) : Nat → α := fun i => if i = k then a else f i

theorem cells3_0 (p : Nat → ByteArray) (v : Nat → Value) (t : Nat → Int) (i : Nat) : cells3 p v t (i * 3) = .string (p i) := by
  unfold cells3
  rw [if_pos (by omega), show i * 3 / 3 = i by omega]
theorem cells3_1 (p : Nat → ByteArray) (v : Nat → Value) (t : Nat → Int) (i : Nat) : cells3 p v t (i * 3 + 1) = v i := by
  unfold cells3
  rw [if_neg (by omega), if_pos (by omega), show (i * 3 + 1) / 3 = i by omega]
theorem cells3_2 (p : Nat → ByteArray) (v : Nat → Value) (t : Nat → Int) (i : Nat) : cells3 p v t (i * 3 + 2) = .int .i64 (t i) := by
  unfold cells3
  rw [if_neg (by omega), if_neg (by omega), show (i * 3 + 2) / 3 = i by omega]

theorem cells3_set (p : Nat → ByteArray) (v : Nat → Value) (t : Nat → Int) (k : Nat) (a : ByteArray) (u : Value) (c : Int) (x : Nat) :
    (if x = k * 3 + 2 then Value.int .i64 c else if x = k * 3 + 1 then u else if x = k * 3 then .string a else cells3 p v t x) = cells3 (upd p k a) (upd v k u) (upd t k c) x := by
  by_cases e2 : x = k * 3 + 2
  · subst e2; rw [if_pos rfl, cells3_2]; simp [upd]
  rw [if_neg e2]
  by_cases e1 : x = k * 3 + 1
  · subst e1; rw [if_pos rfl, cells3_1]; simp [upd]
  rw [if_neg e1]
  by_cases e0 : x = k * 3
  · subst e0; rw [if_pos rfl, cells3_0]; simp [upd]
  rw [if_neg e0]
  have hq : ¬ x / 3 = k := by omega
  unfold cells3 upd
  simp only [hq, if_false]

/-- The call stored whole. -/
theorem rowIs_set3 {w : World} {g m : Nat} {p : Nat → ByteArray} {v : Nat → Value} {t : Nat → Int} (h : w.rowIs g 42 m (cells3 p v t)) (k : Nat) (a : ByteArray) (u : Value) (c : Int) :
    (((w.setCell ⟨g, k * 3, none⟩ (.string a)).setCell ⟨g, k * 3 + 1, none⟩ u).setCell ⟨g, k * 3 + 2, none⟩ (.int .i64 c)).rowIs g 42 m (cells3 (upd p k a) (upd v k u) (upd t k c)) :=
  (((h.set _ _).set _ _).set _ _).congr fun x _ => cells3_set p v t k a u c x

theorem run_make_calls (n : Nat) (hn : n ≤ 1048576) (w : World) :
    (Instr.makeSlice 38 (.int .i64 (n : Int)) (.int .i64 (n : Int))).run Try.prog w = .ok (.slice (some ⟨w.heap.size, 0, none⟩) n n) (w.alloc (.cells (madeCells #[.string ByteArray.empty, .slice none 0 0, .int .i64 0] (n * 3)) 42)) := by
  obtain ⟨i, hi, hz0, hz1, hz2⟩ := info_parts Try.info42
  have hr := run_make (P := Try.prog) w 38 42 i _ Try.underlying38 hi hz0 .i64 .i64 n n (by omega) (Int.le_refl _) (by rw [hz2]; omega) (by omega)
  simp only [Int.toNat_natCast, hz1] at hr
  exact hr

theorem rowIs_madeCalls (w : World) (n : Nat) : (w.alloc (.cells (madeCells #[.string ByteArray.empty, .slice none 0 0, .int .i64 0] (n * 3)) 42)).rowIs w.heap.size 42 (n * 3) (cells3 (fun _ => ByteArray.empty) (fun _ => .slice none 0 0) (fun _ => 0)) := by
  refine ⟨_, blk_alloc_new _ _, size_madeCells _ _, fun i hi => ?_⟩
  have h3 : i % 3 = 0 ∨ i % 3 = 1 ∨ i % 3 = 2 := by omega
  unfold cells3
  rcases h3 with h | h | h <;> simp [madeCells, hi, h]

/-! ### zzBuildCalls -/

/-- The first k of f; behind them z. -/
def upTo {α : Type} (k : Nat) (f : Nat → α) (z : α) : Nat → α := fun i => if i < k then f i else z

theorem upd_upTo {α : Type} (k : Nat) (f : Nat → α) (z a : α) (h : f k = a) : upd (upTo k f z) k a = upTo (k + 1) f z := by
  funext i
  unfold upd upTo
  by_cases e : i = k
  · subst e; simp [h]
  · by_cases e2 : i < k
    · simp [e, e2, Nat.lt_succ_of_lt e2]
    · have e3 : ¬ i < k + 1 := by omega
      simp [e, e2, e3]

theorem upTo_zero {α : Type} (f : Nat → α) (z : α) : upTo 0 f z = fun _ => z := by
  funext i
  simp [upTo]

theorem rowIs_next {w : World} {g m k : Nat} {p : Nat → ByteArray} {v : Nat → Value} {t : Nat → Int} (h : w.rowIs g 42 m (cells3 (upTo k p ByteArray.empty) (upTo k v (.slice none 0 0)) (upTo k t 0))) {a : ByteArray} {u : Value} {c : Int}
    (ha : p k = a) (hu : v k = u) (hc : t k = c) :
    (((w.setCell ⟨g, k * 3, none⟩ (.string a)).setCell ⟨g, k * 3 + 1, none⟩ u).setCell ⟨g, k * 3 + 2, none⟩ (.int .i64 c)).rowIs g 42 m (cells3 (upTo (k + 1) p ByteArray.empty) (upTo (k + 1) v (.slice none 0 0)) (upTo (k + 1) t 0)) := by
  have h1 := rowIs_set3 h k a u c
  rwa [upd_upTo _ _ _ _ ha, upd_upTo _ _ _ _ hu, upd_upTo _ _ _ _ hc] at h1

theorem rowIs_full {w : World} {g n : Nat} {p : Nat → ByteArray} {v : Nat → Value} {t : Nat → Int} (h : w.rowIs g 42 (n * 3) (cells3 (upTo n p ByteArray.empty) (upTo n v (.slice none 0 0)) (upTo n t 0))) : w.rowIs g 42 (n * 3) (cells3 p v t) :=
  h.congr fun x hx => by
    have hq : x / 3 < n := by omega
    unfold cells3 upTo
    simp only [hq, if_true]

set_option maxHeartbeats 800000 in
theorem build_any {w : World} {lo n0 n1 n2 : Nat} {vp va vt : Value} {p : Nat → ByteArray} {V : Nat → Value} {L : Nat → Nat} {S : Nat → Nat → ByteArray} {T : Nat → Int}
    (hp : Row w lo vp n0 fun i => .string (p i)) (hm : Mat w lo va n1 V L S) (ht : Row w lo vt n2 fun i => .int .i64 (T i)) (hn : n0 ≤ 1048576) (hn1 : n1 ≤ 1048576) (hn2 : n2 ≤ 1048576) :
    Calls Try.prog 21 #[vp, va, vt] w fun e w' => e = .returned (.slice (some ⟨w.heap.size, 0, none⟩) n0 n0) ∧ w.Since w.heap.size w' ∧ w.heap.size < w'.heap.size ∧
      w'.rowIs w.heap.size 42 (n0 * 3) (cells3 p (fun i => if i < n1 then V i else .slice none 0 0) (fun i => if i < n2 then T i else 0)) := by
  obtain ⟨pa, pb, po, pc, rfl, _, hpa, hpc⟩ := hp
  obtain ⟨aa, ab, ao, ac, rfl, _, haa, hac⟩ := hm.top
  obtain ⟨ta, tb, to, tc, rfl, _, hta, htc⟩ := ht
  have hrow := hm.row
  clear hm
  have hmk := run_make_calls n0 hn
  go_enter Try.func21, Try.ntmps21
  go_wp2
  clear hmk
  go_loopg [8] n0 (fun g i wr => ∃ k : Nat, k ≤ n0 ∧ g = n0 - k ∧ i = .int .i64 k ∧ w.Since w.heap.size wr ∧ w.heap.size < wr.heap.size ∧
    wr.rowIs w.heap.size 42 (n0 * 3) (cells3 (upTo k p ByteArray.empty) (upTo k (fun i => if i < n1 then V i else .slice none 0 0) (.slice none 0 0)) (upTo k (fun i => if i < n2 then T i else 0) 0)))
  case atStart => exact ⟨0, Nat.zero_le _, rfl, rfl, (World.Since.refl _ _).alloc (Nat.le_refl _) _, by simp, by rw [upTo_zero, upTo_zero, upTo_zero]; exact rowIs_madeCalls w n0⟩
  case round =>
    obtain ⟨k, hk, rfl, rfl, hs, hz, hr⟩ := hrel
    by_cases hlt : k < n0
    · obtain ⟨rfl, _⟩ := hpa (by omega)
      have hkz : (k : Int) < (n0 : Int) := by omega
      have c1 : wr.cell? ⟨pb, po + k, none⟩ = some (.string (p k)) := by rw [hs.cell (a := ⟨pb, po + k, none⟩) (World.block_lt_of_cell? _ _ (hpc k hlt))]; exact hpc k hlt
      have c2 := hr.cell (i := k * 3) (by omega)
      have c3 := hr.cell (i := k * 3 + 1) (by omega)
      have c4 := hr.cell (i := k * 3 + 2) (by omega)
      rw [cells3_0] at c2
      rw [cells3_1] at c3
      rw [cells3_2] at c4
      have f2 := hr.frozen (k * 3)
      have f3 := hr.frozen (k * 3 + 1)
      have f4 := hr.frozen (k * 3 + 2)
      by_cases h1 : k < n1
      · by_cases h2 : k < n2
        · obtain ⟨rfl, _⟩ := haa (by omega)
          obtain ⟨rfl, _⟩ := hta (by omega)
          obtain ⟨ra, rc, hv⟩ := (hrow k h1).shape
          have h1z : (k : Int) < (n1 : Int) := by omega
          have h2z : (k : Int) < (n2 : Int) := by omega
          have c5 : wr.cell? ⟨ab, ao + k, none⟩ = some (.slice ra (L k) rc) := by rw [hs.cell (a := ⟨ab, ao + k, none⟩) (World.block_lt_of_cell? _ _ (hac k h1)), hac k h1, hv]
          have c6 : wr.cell? ⟨tb, to + k, none⟩ = some (.int .i64 (T k)) := by rw [hs.cell (a := ⟨tb, to + k, none⟩) (World.block_lt_of_cell? _ _ (htc k h2))]; exact htc k h2
          clear hpc hac htc hrow
          go_wp2
          go_roundg (n0 - (k + 1))
          case measure => omega
          case rel => exact ⟨k + 1, by omega, rfl, by go_num, ((hs.setCell (Nat.le_refl _) _).setCell (Nat.le_refl _) _).setCell (Nat.le_refl _) _, by simpa using hz, rowIs_next hr rfl (by simp [h1, hv]) (by simp [h2])⟩
        · obtain ⟨rfl, _⟩ := haa (by omega)
          obtain ⟨ra, rc, hv⟩ := (hrow k h1).shape
          have h1z : (k : Int) < (n1 : Int) := by omega
          have c5 : wr.cell? ⟨ab, ao + k, none⟩ = some (.slice ra (L k) rc) := by rw [hs.cell (a := ⟨ab, ao + k, none⟩) (World.block_lt_of_cell? _ _ (hac k h1)), hac k h1, hv]
          clear hpc hac htc hrow
          go_wp2
          go_roundg (n0 - (k + 1))
          case measure => omega
          case rel => exact ⟨k + 1, by omega, rfl, by go_num, ((hs.setCell (Nat.le_refl _) _).setCell (Nat.le_refl _) _).setCell (Nat.le_refl _) _, by simpa using hz, rowIs_next hr rfl (by simp [h1, hv]) (by simp [h2])⟩
      · by_cases h2 : k < n2
        · obtain ⟨rfl, _⟩ := hta (by omega)
          have h2z : (k : Int) < (n2 : Int) := by omega
          have c6 : wr.cell? ⟨tb, to + k, none⟩ = some (.int .i64 (T k)) := by rw [hs.cell (a := ⟨tb, to + k, none⟩) (World.block_lt_of_cell? _ _ (htc k h2))]; exact htc k h2
          clear hpc hac htc hrow
          go_wp2
          go_roundg (n0 - (k + 1))
          case measure => omega
          case rel => exact ⟨k + 1, by omega, rfl, by go_num, ((hs.setCell (Nat.le_refl _) _).setCell (Nat.le_refl _) _).setCell (Nat.le_refl _) _, by simpa using hz, rowIs_next hr rfl (by simp [h1]) (by simp [h2])⟩
        · clear hpc hac htc hrow
          go_wp2
          go_roundg (n0 - (k + 1))
          case measure => omega
          case rel => exact ⟨k + 1, by omega, rfl, by go_num, ((hs.setCell (Nat.le_refl _) _).setCell (Nat.le_refl _) _).setCell (Nat.le_refl _) _, by simpa using hz, rowIs_next hr rfl (by simp [h1]) (by simp [h2])⟩
    · clear hpc hac htc hrow
      go_wp2
      go_ret
      obtain rfl : k = n0 := by omega
      exact ⟨rfl, hs, hz, rowIs_full hr⟩

end Go.Proofs.Qxb6000533a
