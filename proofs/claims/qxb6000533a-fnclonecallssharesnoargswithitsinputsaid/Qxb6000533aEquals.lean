import Derived.Test.Qxb6000533aCloneCalls
import Derived.Test.Qxb6000533aSize
import Derived.Test.Qxb6000533aBytes
import Derived.Deep.QuietTactic
import Derived.BigQuiet
namespace Go.Proofs.Qxb6000533a
open Go.RowKit Go.Deep

theorem eq38 (wx : World) (a : Option Addr) (n c : Nat) : (binOp .eql 38 (.slice a n c) (.slice none 0 0)).run Try.prog wx = .ok (.bool a.isNone) wx := Lib.run_eql_slice_nil (P := Try.prog) wx 38 42 a n c 0 0 Try.underlying38

/-- It returns true; of what was there nothing has turned. -/
def TrueSaid (w : World) (e : Ending) (w' : World) : Prop := e = .returned (.bool true) ∧ w.Since w.heap.size w'

theorem since_trans {w w1 w2 : World} (h : w.Since w.heap.size w1) (k : w1.Since w1.heap.size w2) : w.Since w.heap.size w2 := h.trans (since_mono k h.size)

theorem since_drewN {B : Nat} {w w' : World} (h : w.Since B w') (n : Nat) : w.Since B (w'.drewN n) := by
  have a := World.drewN_alike (w := w') (n := n)
  exact ⟨a.2.1.trans h.os, h.tape, a.2.2.trans h.output, by rw [a.1]; exact h.size, fun k hk => by rw [a.1]; exact h.block k hk⟩

/-- What one round of the comparison reads: the call at place k, and its clone. -/
theorem round_facts {w4 w5 wr : World} {cg n k : Nat} {p : Nat → ByteArray} {V U : Nat → Value} {t : Nat → Int} {L : Nat → Nat} {S : Nat → Nat → ByteArray} (hr : w4.rowIs cg 42 (n * 3) (cells3 p V t))
    (hV : ∀ r, r < n → Row w4 0 (V r) (L r) fun j => .string (S r j)) (hR : CloneRel w4 w5 n n p V U t L S) (hs : w5.Since w5.heap.size wr) (hk : k < n) :
    ∃ ca cc cb co ua uc ub uo, wr.cell? ⟨cg, k * 3, none⟩ = some (.string (p k)) ∧ wr.cell? ⟨cg, k * 3 + 1, none⟩ = some (.slice ca (L k) cc) ∧ wr.cell? ⟨cg, k * 3 + 2, none⟩ = some (.int .i64 (t k)) ∧
      wr.cell? ⟨w4.heap.size, k * 3, none⟩ = some (.string (p k)) ∧ wr.cell? ⟨w4.heap.size, k * 3 + 1, none⟩ = some (.slice ua (L k) uc) ∧ wr.cell? ⟨w4.heap.size, k * 3 + 2, none⟩ = some (.int .i64 (t k)) ∧
      ua.isNone = ca.isNone ∧ ∀ j, j < L k → ca = some ⟨cb, co, none⟩ ∧ ua = some ⟨ub, uo, none⟩ ∧ wr.cell? ⟨cb, co + j, none⟩ = some (.string (S k j)) ∧ wr.cell? ⟨ub, uo + j, none⟩ = some (.string (S k j)) := by
  have hsr : w4.Since w4.heap.size wr := since_trans hR.since hs
  have h1 := hr.of_block (hsr.block _ hr.lt)
  have h2 := (rowIs_full hR.top).of_block (hs.block _ (Nat.lt_of_lt_of_le hR.lt (Nat.le_refl _)))
  obtain ⟨ca, cb, co, cc, hc, _, hca, hcc⟩ := (hV k hk).since hsr
  obtain ⟨ua, ub, uo, uc, hu, _, hua, huc⟩ := (hR.row k hk).row.since hs
  have g1 := h1.cell (i := k * 3) (by omega)
  have g2 := h1.cell (i := k * 3 + 1) (by omega)
  have g3 := h1.cell (i := k * 3 + 2) (by omega)
  have g4 := h2.cell (i := k * 3) (by omega)
  have g5 := h2.cell (i := k * 3 + 1) (by omega)
  have g6 := h2.cell (i := k * 3 + 2) (by omega)
  rw [cells3_0] at g1 g4
  rw [cells3_1] at g2 g5
  rw [cells3_2] at g3 g6
  have hn := hR.nils k hk
  rw [hc, hu] at hn
  rw [hc] at g2
  rw [hu] at g5
  refine ⟨ca, cc, cb, co, ua, uc, ub, uo, g1, g2, g3, g4, g5, g6, ?_, fun j hj => ⟨(hca (by omega)).1, (hua (by omega)).1, hcc j hj, huc j hj⟩⟩
  cases ca <;> cases ua <;> simp_all [nilB]

set_option maxRecDepth 100000 in
set_option maxHeartbeats 1600000 in
theorem equals_walk {w : World} {lo n0 n1 n2 : Nat} {vp va vt : Value} {p : Nat → ByteArray} {V : Nat → Value} {L : Nat → Nat} {S : Nat → Nat → ByteArray} {T : Nat → Int}
    (hp : Row w lo vp n0 fun i => .string (p i)) (hm : Mat w lo va n1 V L S) (ht : Row w lo vt n2 fun i => .int .i64 (T i)) (hn2 : n2 ≤ maxLen) :
    Calls Try.prog 5 #[vp, va, vt] w (TrueSaid w) := by
  obtain ⟨ta, tc, rfl⟩ := ht.shape
  obtain ⟨pa, pc, rfl⟩ := hp.shape
  obtain ⟨aa, ac, rfl⟩ := hm.top.shape
  have h16 := bytes16 (ta := ta) (tc := tc) hp hm hn2
  have h17 := tooBig_any (n2 := n2) (ta := ta) (tc := tc) hp hm
  go_enter Try.func5, Try.ntmps5
  go_wp2_with (first | (go_at_call 16; refine h16.mono ?_; rintro e w' ⟨r, rfl, rfl⟩) | (go_at_call 17; refine h17.mono ?_; rintro e w' ⟨r2, rfl, rfl, hsmall⟩))
  · go_ret
    exact ⟨rfl, World.Since.refl _ _⟩
  · go_ret
    exact ⟨rfl, World.Since.refl _ _⟩
  have hsm := hsmall ‹_›
  obtain ⟨q0, q1, q2, q3⟩ := hsm
  clear hsmall h16 h17
  refine (copyStrs_any hp (by omega)).mono ?_
  rintro e w1 ⟨v1, rfl, _, hs1, hp1⟩
  obtain ⟨a1, c1, rfl⟩ := hp1.shape
  have hm1 := hm.since hs1
  have ht1 := ht.since hs1
  go_wp2_with fail
  refine (copyArgs_any hm1 (by omega) (fun r hr => by have := (q3 r hr).1; omega)).mono ?_
  rintro e w2 ⟨v2, U2, rfl, _, hs2, hm2, _⟩
  obtain ⟨a2, c2, rfl⟩ := hm2.top.shape
  have hp2 := hp1.since hs2
  have ht2 := ht1.since hs2
  go_wp2_with fail
  refine (copyInts_any ht2 (by omega)).mono ?_
  rintro e w3 ⟨v3, rfl, _, hs3, ht3⟩
  obtain ⟨a3, c3, rfl⟩ := ht3.shape
  have hm3 := hm2.since hs3
  have hp3 := hp2.since hs3
  go_wp2_with fail
  have hm3' : Mat w3 0 (.slice a2 n1 c2) n1 U2 L S := ⟨hm3.top.mono (Nat.zero_le _), fun r hr => (hm3.row r hr).mono (Nat.zero_le _)⟩
  refine (build_any (hp3.mono (Nat.zero_le _)) hm3' (ht3.mono (Nat.zero_le _)) (by omega) (by omega) (by omega)).mono ?_
  rintro e w4 ⟨rfl, hs4, hlt4, hr4⟩
  have hV4 : ∀ r, r < n0 → Row w4 0 ((fun i => if i < n1 then U2 i else .slice none 0 0) r) ((fun i => if i < n1 then L i else 0) r) fun j => .string (S r j) := by
    intro r _
    by_cases h : r < n1
    · simpa [h] using (hm3'.row r h).since hs4
    · simpa [h] using Row.nil w4 0 fun j => .string (S r j)
  have hs14 := since_trans (since_trans (since_trans hs1 hs2) hs3) hs4
  clear hp hm ht hp1 hm1 ht1 hp2 hm2 ht2 hp3 hm3 ht3 hm3' hs1 hs2 hs3 hs4
  go_wp2_with fail
  by_cases hn0 : n0 = 0
  · subst hn0
    refine (zzClone_none _ _ _).mono ?_
    rintro e w5 ⟨rfl, rfl⟩
    have hnil := eq38
    go_wp2
    go_ret
    exact ⟨rfl, hs14⟩
  have h0 : 0 < n0 := by omega
  have h0z : ((n0 : Int) == 0) = false := by simp; omega
  have hL5 : ∀ r, r < n0 → (fun i => if i < n1 then L i else 0) r ≤ 1048576 := by
    intro r _
    by_cases h : r < n1
    · have := (q3 r h).1
      simp [h]; omega
    · simp [h]
  refine (zzClone_some w4 w3.heap.size n0 n0 p _ _ _ S 0 hr4 hV4 h0 (by omega) hL5).mono ?_
  rintro e w5 ⟨U5, rfl, hR⟩
  have hs15 := since_trans hs14 hR.since
  have HX : Hid (∀ (wr : World) (k : Nat), w5.Since w5.heap.size wr → k < n0 → ∃ m ca cc cb co ua uc ub uo c, m ≤ 1048576 ∧ wr.cell? ⟨w3.heap.size, k * 3, none⟩ = some (.string (p k)) ∧ wr.cell? ⟨w3.heap.size, k * 3 + 1, none⟩ = some (.slice ca m cc) ∧ wr.cell? ⟨w3.heap.size, k * 3 + 2, none⟩ = some (.int .i64 c) ∧
      wr.cell? ⟨w4.heap.size, k * 3, none⟩ = some (.string (p k)) ∧ wr.cell? ⟨w4.heap.size, k * 3 + 1, none⟩ = some (.slice ua m uc) ∧ wr.cell? ⟨w4.heap.size, k * 3 + 2, none⟩ = some (.int .i64 c) ∧
      ua.isNone = ca.isNone ∧ ∀ j, j < m → ca = some ⟨cb, co, none⟩ ∧ ua = some ⟨ub, uo, none⟩ ∧ wr.cell? ⟨cb, co + j, none⟩ = some (.string (S k j)) ∧ wr.cell? ⟨ub, uo + j, none⟩ = some (.string (S k j))) := by
    intro wr k hsr hk
    obtain ⟨ca, cc, cb, co, ua, uc, ub, uo, hh⟩ := round_facts hr4 hV4 hR hsr hk
    exact ⟨_, ca, cc, cb, co, ua, uc, ub, uo, _, hL5 k hk, hh⟩
  clear hR hr4 hV4 hL5 q3 hs14 hlt4
  go_wp2
  go_loopg [9] n0 (fun g i wr => ∃ k : Nat, k ≤ n0 ∧ g = n0 - k ∧ i = .int .i64 k ∧ w5.Since w5.heap.size wr)
  case atStart => exact ⟨0, Nat.zero_le _, rfl, rfl, World.Since.refl _ _⟩
  case round =>
    obtain ⟨k, hk, rfl, rfl, hsr⟩ := hrel
    by_cases hlt : k < n0
    · have hkz : (k : Int) < (n0 : Int) := by omega
      obtain ⟨m, ca, cc, cb, co, ua, uc, ub, uo, c, hm, g1, g2, g3, g4, g5, g6, hnn, hel⟩ := HX.out wr k hsr hlt
      have HE : Hid (∀ j, j < m → ca = some ⟨cb, co, none⟩ ∧ ua = some ⟨ub, uo, none⟩ ∧ wr.cell? ⟨cb, co + j, none⟩ = some (.string (S k j)) ∧ wr.cell? ⟨ub, uo + j, none⟩ = some (.string (S k j))) := hel
      clear hel
      have hnil := eq31
      go_wp2
      go_quiet (fail)
      go_wp2
      go_quiet (fail)
      go_wp2
      go_quiet (fail)
      go_wp2
      go_loopg [10] m (fun g i wx => ∃ j : Nat, j ≤ m ∧ g = m - j ∧ i = .int .i64 j ∧ wr.Since wr.heap.size wx)
      case atStart => exact ⟨0, Nat.zero_le _, rfl, rfl, since_drewN (since_drewN (since_drewN (World.Since.refl _ _) _) _) _⟩
      case round =>
        obtain ⟨j, hj, rfl, rfl, hsx⟩ := hrel
        have i2 := (hsx.cell (a := ⟨w3.heap.size, k * 3 + 1, none⟩) (World.block_lt_of_cell? _ _ g2)).trans g2
        have i5 := (hsx.cell (a := ⟨w4.heap.size, k * 3 + 1, none⟩) (World.block_lt_of_cell? _ _ g5)).trans g5
        by_cases hlj : j < m
        · have hjz : (j : Int) < (m : Int) := by omega
          obtain ⟨rfl, rfl, i7, i8⟩ := HE.out j hlj
          have j7 := (hsx.cell (a := ⟨cb, co + j, none⟩) (World.block_lt_of_cell? _ _ i7)).trans i7
          have j8 := (hsx.cell (a := ⟨ub, uo + j, none⟩) (World.block_lt_of_cell? _ _ i8)).trans i8
          clear g1 g2 g3 g4 g5 g6 i7 i8 hnil hnn
          go_wp2
          go_quiet (fail)
          go_wp2
          go_roundg (m - (j + 1))
          case measure => omega
          case rel => exact ⟨j + 1, by omega, rfl, by go_num, since_drewN hsx _⟩
        · clear g1 g2 g3 g4 g5 g6 hnil hnn
          go_wp2
          go_roundg (n0 - (k + 1))
          case measure => omega
          case rel => exact ⟨k + 1, by omega, rfl, by go_num, since_trans hsr hsx⟩
    · go_wp2
      go_ret
      exact ⟨rfl, since_trans hs15 hsr⟩
end Go.Proofs.Qxb6000533a
