import Derived.Test.Qxb6000533aChecked
import Derived.Test.Qxb6000533aBase
import Derived.Deep.LoopGhost
import Derived.WalkSpells
import Derived.WalkLawsBesides
import Derived.KernelRfl
namespace Go.Proofs.Qxb6000533a
open Go.RowKit

theorem Try.info9 : (Try.prog.info? 9).map (fun i => (i.zero, i.size, i.bytes)) = some (some (.string ByteArray.empty), 1, 16) := by kernel_rfl
theorem Try.info31 : (Try.prog.info? 31).map (fun i => (i.zero, i.size, i.bytes)) = some (some (.slice none 0 0), 1, 24) := by kernel_rfl
theorem Try.info2 : (Try.prog.info? 2).map (fun i => (i.zero, i.size, i.bytes)) = some (some (.int .i64 0), 1, 8) := by kernel_rfl

theorem eq31 (wx : World) (a : Option Addr) (n c : Nat) : (binOp .eql 31 (.slice a n c) (.slice none 0 0)).run Try.prog wx = .ok (.bool a.isNone) wx := Lib.run_eql_slice_nil (P := Try.prog) wx 31 9 a n c 0 0 Try.underlying31

theorem copyStrs_nil (w : World) : Calls Try.prog 18 #[.slice none 0 0] w fun e w' => e = .returned (.slice none 0 0) ∧ w' = w := by
  have hnil := eq31
  go_enter Try.func18, Try.ntmps18
  go_wp2
  go_ret
  exact ⟨rfl, rfl⟩

set_option maxHeartbeats 400000 in
theorem copyStrs_some (ad : Addr) (b o n cap : Nat) (S : Nat → ByteArray) (w : World) (ha : 0 < n → ad = ⟨b, o, none⟩) (hn : n ≤ 1048576)
    (hc : ∀ i, i < n → w.cell? ⟨b, o + i, none⟩ = some (.string (S i))) :
    Calls Try.prog 18 #[.slice (some ad) n cap] w fun e w' => e = .returned (.slice (some ⟨w.heap.size, 0, none⟩) n n) ∧ w.Since w.heap.size w' ∧ w'.heap.size = w.heap.size + 1 ∧ w'.rowIs w.heap.size 9 n (fun i => .string (S i)) := by
  have hmk := run_make_row' (P := Try.prog) 31 9 (.string ByteArray.empty) 16 Try.underlying31 Try.info9 rfl .i64 .i64 n (by omega) (by omega)
  have hnil := eq31
  go_enter Try.func18, Try.ntmps18
  go_wp2
  clear hmk hnil
  go_loopg [4] n (fun g i wr => ∃ k : Nat, k ≤ n ∧ g = n - k ∧ i = .int .i64 k ∧ w.Since w.heap.size wr ∧ wr.heap.size = w.heap.size + 1 ∧ wr.rowIs w.heap.size 9 n (fun i => if i < k then .string (S i) else .string ByteArray.empty))
  case atStart => exact ⟨0, Nat.zero_le _, rfl, rfl, (World.Since.refl _ _).alloc (Nat.le_refl _) _, by simp, (World.rowIs_made w _ n 9).congr (fun _ _ => by simp)⟩
  case round =>
    obtain ⟨k, hk, rfl, rfl, hs, hz, hr⟩ := hrel
    by_cases hlt : k < n
    · obtain rfl := ha (by omega)
      have hb := World.block_lt_of_cell? _ _ (hc k hlt)
      have c1 : wr.cell? ⟨b, o + k, none⟩ = some (.string (S k)) := by rw [hs.cell (a := ⟨b, o + k, none⟩) hb]; exact hc k hlt
      have c2 := hr.cell hlt
      have c3 := hr.frozen k
      have hkz : (k : Int) < (n : Int) := by omega
      go_wp2
      go_roundg (n - (k + 1))
      case measure => omega
      case rel => exact ⟨k + 1, by omega, rfl, by go_num, hs.setCell (Nat.le_refl _) _, by simpa using hz, (hr.set k _).congr (fun j _ => by by_cases e : j = k <;> by_cases e2 : j < k <;> simp [e, e2] <;> omega)⟩
    · go_wp2
      go_ret
      exact ⟨rfl, hs, hz, hr.congr (fun i hi => by rw [if_pos (by omega)])⟩

theorem eq33 (wx : World) (a : Option Addr) (n c : Nat) : (binOp .eql 33 (.slice a n c) (.slice none 0 0)).run Try.prog wx = .ok (.bool a.isNone) wx := Lib.run_eql_slice_nil (P := Try.prog) wx 33 2 a n c 0 0 Try.underlying33

theorem eq32 (wx : World) (a : Option Addr) (n c : Nat) : (binOp .eql 32 (.slice a n c) (.slice none 0 0)).run Try.prog wx = .ok (.bool a.isNone) wx := Lib.run_eql_slice_nil (P := Try.prog) wx 32 31 a n c 0 0 Try.underlying32

theorem copyInts_nil (w : World) : Calls Try.prog 20 #[.slice none 0 0] w fun e w' => e = .returned (.slice none 0 0) ∧ w' = w := by
  have hnil := eq33
  go_enter Try.func20, Try.ntmps20
  go_wp2
  go_ret
  exact ⟨rfl, rfl⟩

set_option maxHeartbeats 400000 in
theorem copyInts_some (ad : Addr) (b o n cap : Nat) (S : Nat → Int) (w : World) (ha : 0 < n → ad = ⟨b, o, none⟩) (hn : n ≤ 1048576)
    (hc : ∀ i, i < n → w.cell? ⟨b, o + i, none⟩ = some (.int .i64 (S i))) :
    Calls Try.prog 20 #[.slice (some ad) n cap] w fun e w' => e = .returned (.slice (some ⟨w.heap.size, 0, none⟩) n n) ∧ w.Since w.heap.size w' ∧ w'.heap.size = w.heap.size + 1 ∧ w'.rowIs w.heap.size 2 n (fun i => .int .i64 (S i)) := by
  have hmk := run_make_row' (P := Try.prog) 33 2 (.int .i64 0) 8 Try.underlying33 Try.info2 rfl .i64 .i64 n (by omega) (by omega)
  have hnil := eq33
  go_enter Try.func20, Try.ntmps20
  go_wp2
  clear hmk hnil
  go_loopg [4] n (fun g i wr => ∃ k : Nat, k ≤ n ∧ g = n - k ∧ i = .int .i64 k ∧ w.Since w.heap.size wr ∧ wr.heap.size = w.heap.size + 1 ∧ wr.rowIs w.heap.size 2 n (fun i => if i < k then .int .i64 (S i) else .int .i64 0))
  case atStart => exact ⟨0, Nat.zero_le _, rfl, rfl, (World.Since.refl _ _).alloc (Nat.le_refl _) _, by simp, (World.rowIs_made w _ n 2).congr (fun _ _ => by simp)⟩
  case round =>
    obtain ⟨k, hk, rfl, rfl, hs, hz, hr⟩ := hrel
    by_cases hlt : k < n
    · obtain rfl := ha (by omega)
      have hb := World.block_lt_of_cell? _ _ (hc k hlt)
      have c1 : wr.cell? ⟨b, o + k, none⟩ = some (.int .i64 (S k)) := by rw [hs.cell (a := ⟨b, o + k, none⟩) hb]; exact hc k hlt
      have c2 := hr.cell hlt
      have c3 := hr.frozen k
      have hkz : (k : Int) < (n : Int) := by omega
      go_wp2
      go_roundg (n - (k + 1))
      case measure => omega
      case rel => exact ⟨k + 1, by omega, rfl, by go_num, hs.setCell (Nat.le_refl _) _, by simpa using hz, (hr.set k _).congr (fun j _ => by by_cases e : j = k <;> by_cases e2 : j < k <;> simp [e, e2] <;> omega)⟩
    · go_wp2
      go_ret
      exact ⟨rfl, hs, hz, hr.congr (fun i hi => by rw [if_pos (by omega)])⟩

/-- A '[]string' copied. -/
theorem copyStrs_any {w : World} {lo n : Nat} {v : Value} {S : Nat → ByteArray} (h : Row w lo v n fun i => .string (S i)) (hn : n ≤ 1048576) :
    Calls Try.prog 18 #[v] w fun e w' => ∃ v', e = .returned v' ∧ nilB v' = nilB v ∧ w.Since w.heap.size w' ∧ Row w' w.heap.size v' n fun i => .string (S i) := by
  obtain ⟨a, b, o, cap, rfl, h0, ha, hc⟩ := h
  cases a with
  | none =>
    obtain ⟨rfl, rfl⟩ := h0 rfl
    refine (copyStrs_nil w).mono fun e w' ⟨he, hw⟩ => ?_
    subst he hw
    exact ⟨_, rfl, rfl, World.Since.refl _ _, Row.nil _ _ _⟩
  | some ad =>
    refine (copyStrs_some ad b o n cap S w (fun h => by simpa using (ha h).1) hn hc).mono fun e w' ⟨he, hs, _, hr⟩ => ?_
    exact ⟨_, he, rfl, hs, Row.ofIs hr (Nat.le_refl _) n⟩

/-- A '[]int64' copied. -/
theorem copyInts_any {w : World} {lo n : Nat} {v : Value} {S : Nat → Int} (h : Row w lo v n fun i => .int .i64 (S i)) (hn : n ≤ 1048576) :
    Calls Try.prog 20 #[v] w fun e w' => ∃ v', e = .returned v' ∧ nilB v' = nilB v ∧ w.Since w.heap.size w' ∧ Row w' w.heap.size v' n fun i => .int .i64 (S i) := by
  obtain ⟨a, b, o, cap, rfl, h0, ha, hc⟩ := h
  cases a with
  | none =>
    obtain ⟨rfl, rfl⟩ := h0 rfl
    refine (copyInts_nil w).mono fun e w' ⟨he, hw⟩ => ?_
    subst he hw
    exact ⟨_, rfl, rfl, World.Since.refl _ _, Row.nil _ _ _⟩
  | some ad =>
    refine (copyInts_some ad b o n cap S w (fun h => by simpa using (ha h).1) hn hc).mono fun e w' ⟨he, hs, _, hr⟩ => ?_
    exact ⟨_, he, rfl, hs, Row.ofIs hr (Nat.le_refl _) n⟩

/-! ### A '[][]string' copied -/

/-- A '[][]string' as the world holds it: the outer cells are 'V r'; row r has 'L r' strings 'S r'. -/
structure Mat (w : World) (lo : Nat) (v : Value) (n : Nat) (V : Nat → Value) (L : Nat → Nat) (S : Nat → Nat → ByteArray) : Prop where
  top : Row w lo v n V
  row : ∀ r, r < n → Row w lo (V r) (L r) fun j => .string (S r j)

theorem Mat.since {w w' : World} {lo n : Nat} {v : Value} {V : Nat → Value} {L : Nat → Nat} {S : Nat → Nat → ByteArray} (h : Mat w lo v n V L S) (hs : w.Since w.heap.size w') : Mat w' lo v n V L S :=
  ⟨h.top.since hs, fun r hr => (h.row r hr).since hs⟩

theorem copyArgs_nil (w : World) : Calls Try.prog 19 #[.slice none 0 0] w fun e w' => e = .returned (.slice none 0 0) ∧ w' = w := by
  have hnil := eq32
  go_enter Try.func19, Try.ntmps19
  go_wp2
  go_ret
  exact ⟨rfl, rfl⟩

/-- What holds at the loop's head, k rows copied: 'U r' is the copy of row r. -/
structure CopyRel (w wr : World) (n k : Nat) (V U : Nat → Value) (L : Nat → Nat) (S : Nat → Nat → ByteArray) : Prop where
  since : w.Since w.heap.size wr
  lt : w.heap.size < wr.heap.size
  top : wr.rowIs w.heap.size 31 n fun j => if j < k then U j else .slice none 0 0
  row : ∀ r, r < k → Row wr (w.heap.size + 1) (U r) (L r) fun j => .string (S r j)
  nils : ∀ r, r < k → nilB (U r) = nilB (V r)

theorem CopyRel.step {w wr w1 : World} {n k : Nat} {V U : Nat → Value} {L : Nat → Nat} {S : Nat → Nat → ByteArray} (h : CopyRel w wr n k V U L S) {u : Value} (hk : k < n) (hs : wr.Since wr.heap.size w1)
    (hr : Row w1 wr.heap.size u (L k) fun j => .string (S k j)) (hu : nilB u = nilB (V k)) : CopyRel w (w1.setCell ⟨w.heap.size, k, none⟩ u) n (k + 1) V (fun r => if r = k then u else U r) L S := by
  have hlt := h.lt
  have hsz := hs.size
  refine ⟨((h.since.trans (since_mono hs (Nat.le_of_lt hlt)))).setCell (Nat.le_refl _) _, by simpa using Nat.lt_of_lt_of_le hlt hsz, ?_, ?_, ?_⟩
  · refine ((h.top.of_block (hs.block _ hlt)).set k u).congr fun j _ => ?_
    by_cases e : j = k
    · subst e; simp
    · by_cases e2 : j < k
      · simp [e, e2, Nat.lt_succ_of_lt e2]
      · have e3 : ¬ j < k + 1 := by omega
        simp [e, e2, e3]
  · intro r hr1
    by_cases e : r = k
    · subst e
      simpa using (hr.mono (by omega)).setCell (p := ⟨w.heap.size, r, none⟩) (by show w.heap.size < w.heap.size + 1; omega) u
    · simpa [e] using ((h.row r (by omega)).since hs).setCell (p := ⟨w.heap.size, k, none⟩) (by show w.heap.size < w.heap.size + 1; omega) u
  · intro r hr1
    by_cases e : r = k
    · subst e; simpa using hu
    · simpa [e] using h.nils r (by omega)

set_option maxHeartbeats 400000 in
theorem copyArgs_some (ad : Addr) (b o n cap : Nat) (V : Nat → Value) (L : Nat → Nat) (S : Nat → Nat → ByteArray) (w : World) (ha : 0 < n → ad = ⟨b, o, none⟩) (hn : n ≤ 1048576) (hL : ∀ r, r < n → L r ≤ 1048576)
    (hc : ∀ i, i < n → w.cell? ⟨b, o + i, none⟩ = some (V i)) {lo : Nat} (hV : ∀ r, r < n → Row w lo (V r) (L r) fun j => .string (S r j)) :
    Calls Try.prog 19 #[.slice (some ad) n cap] w fun e w' => ∃ U, e = .returned (.slice (some ⟨w.heap.size, 0, none⟩) n n) ∧ CopyRel w w' n n V U L S := by
  have hmk := run_make_row' (P := Try.prog) 32 31 (.slice none 0 0) 24 Try.underlying32 Try.info31 rfl .i64 .i64 n (by omega) (by omega)
  have hnil := eq32
  go_enter Try.func19, Try.ntmps19
  go_wp2
  clear hmk hnil
  go_loopg [4] n (fun g i wr => ∃ k : Nat, k ≤ n ∧ g = n - k ∧ i = .int .i64 k ∧ ∃ U, CopyRel w wr n k V U L S)
  case atStart => exact ⟨0, Nat.zero_le _, rfl, rfl, fun _ => .slice none 0 0, (World.Since.refl _ _).alloc (Nat.le_refl _) _, by simp, (World.rowIs_made w _ n 31).congr (fun _ _ => by simp), fun r hr => absurd hr (Nat.not_lt_zero _), fun r hr => absurd hr (Nat.not_lt_zero _)⟩
  case round =>
    obtain ⟨k, hk, rfl, rfl, U, hR⟩ := hrel
    by_cases hlt : k < n
    · obtain rfl := ha (by omega)
      have hb := World.block_lt_of_cell? _ _ (hc k hlt)
      have hVk := (hV k hlt).since hR.since
      obtain ⟨a, b', o', cap', hv, h0, ha', hc'⟩ := id hVk
      have c1 : wr.cell? ⟨b, o + k, none⟩ = some (.slice a (L k) cap') := by rw [hR.since.cell (a := ⟨b, o + k, none⟩) hb, hc k hlt, hv]
      have hcall := copyStrs_any hVk (hL k hlt)
      rw [hv] at hcall
      have hkz : (k : Int) < (n : Int) := by omega
      have c2 := fun (w1 : World) (h : wr.Since wr.heap.size w1) => ((hR.top.of_block (h.block _ hR.lt)).cell hlt)
      have c3 := fun (w1 : World) (h : wr.Since wr.heap.size w1) => ((hR.top.of_block (h.block _ hR.lt)).frozen k)
      clear hV hc ha' hc'
      go_wp2_with (go_at_call 18; refine hcall.mono ?_; rintro e w1 ⟨u, rfl, hu, hs1, hr1⟩; obtain ⟨ua, ucap, rfl⟩ := hr1.shape; have c2' := c2 w1 hs1; have c3' := c3 w1 hs1)
      go_roundg (n - (k + 1))
      case measure => omega
      case rel => exact ⟨k + 1, by omega, rfl, by go_num, _, hR.step hlt hs1 hr1 (by rw [hu, hv])⟩
    · go_wp2
      go_ret
      exact ⟨U, rfl, by have e : k = n := by omega
                        rw [← e]; rw [e] at hR ⊢; exact hR⟩

/-- A '[][]string' copied. -/
theorem copyArgs_any {w : World} {lo n : Nat} {v : Value} {V : Nat → Value} {L : Nat → Nat} {S : Nat → Nat → ByteArray} (h : Mat w lo v n V L S) (hn : n ≤ 1048576) (hL : ∀ r, r < n → L r ≤ 1048576) :
    Calls Try.prog 19 #[v] w fun e w' => ∃ v' U, e = .returned v' ∧ nilB v' = nilB v ∧ w.Since w.heap.size w' ∧ Mat w' w.heap.size v' n U L S ∧ ∀ r, r < n → nilB (U r) = nilB (V r) := by
  obtain ⟨⟨a, b, o, cap, rfl, h0, ha, hc⟩, hrow⟩ := h
  cases a with
  | none =>
    obtain ⟨rfl, rfl⟩ := h0 rfl
    refine (copyArgs_nil w).mono fun e w' ⟨he, hw⟩ => ?_
    subst he hw
    exact ⟨_, V, rfl, rfl, World.Since.refl _ _, ⟨Row.nil _ _ _, fun r hr => absurd hr (Nat.not_lt_zero _)⟩, fun _ _ => rfl⟩
  | some ad =>
    refine (copyArgs_some ad b o n cap V L S w (fun h => by simpa using (ha h).1) hn hL hc hrow).mono fun e w' ⟨U, he, hR⟩ => ?_
    exact ⟨_, U, he, rfl, hR.since, ⟨Row.ofIs (hR.top.congr fun i hi => by rw [if_pos hi]) (Nat.le_refl _) n, fun r hr => (hR.row r hr).mono (Nat.le_succ _)⟩, hR.nils⟩

end Go.Proofs.Qxb6000533a
