import Derived.Test.Qxb6000533aSpoil
namespace Go.Proofs.Qxb6000533a
open Go.RowKit Go.Deep

set_option maxRecDepth 100000 in
set_option maxHeartbeats 3200000 in
theorem shares_walk {w : World} {lo n0 n1 n2 : Nat} {vp va vt : Value} {p : Nat → ByteArray} {V : Nat → Value} {L : Nat → Nat} {S : Nat → Nat → ByteArray} {T : Nat → Int}
    (hp : Row w lo vp n0 fun i => .string (p i)) (hm : Mat w lo va n1 V L S) (ht : Row w lo vt n2 fun i => .int .i64 (T i)) (hn2 : n2 ≤ maxLen) :
    Calls Try.prog 6 #[vp, va, vt] w (TrueSaid w) := by
  obtain ⟨ta, tc, rfl⟩ := ht.shape
  obtain ⟨pa, pc, rfl⟩ := hp.shape
  obtain ⟨aa, ac, rfl⟩ := hm.top.shape
  have h23 := bytes23 (ta := ta) (tc := tc) hp hm hn2
  have h17 := tooBig_any (n2 := n2) (ta := ta) (tc := tc) hp hm
  go_enter Try.func6, Try.ntmps6
  go_wp2_with (first | (go_at_call 23; refine h23.mono ?_; rintro e w' ⟨r, rfl, rfl⟩) | (go_at_call 17; refine h17.mono ?_; rintro e w' ⟨r2, rfl, rfl, hsmall⟩))
  · go_ret
    exact ⟨rfl, World.Since.refl _ _⟩
  · go_ret
    exact ⟨rfl, World.Since.refl _ _⟩
  have hsm := hsmall ‹_›
  obtain ⟨q0, q1, q2, q3⟩ := hsm
  have qL : ∀ r, r < n1 → L r ≤ 1048576 := fun r hr => by have := (q3 r hr).1; omega
  clear hsmall h23 h17
  refine (copyStrs_any hp (by omega)).mono ?_
  rintro e w1 ⟨v1, rfl, _, hs1, hp1⟩
  obtain ⟨a1, c1, rfl⟩ := hp1.shape
  have hm1 := hm.since hs1
  have ht1 := ht.since hs1
  go_wp2_with fail
  refine (copyArgs_any hm1 (by omega) qL).mono ?_
  rintro e w2 ⟨v2, U2, rfl, _, hs2, hm2, _⟩
  obtain ⟨a2, c2, rfl⟩ := hm2.top.shape
  have hp2 := hp1.since hs2
  have ht2 := ht1.since hs2
  go_wp2_with fail
  refine (copyInts_any ht2 (by omega)).mono ?_
  rintro e w3 ⟨v3, rfl, _, hs3, ht3⟩
  obtain ⟨a3, c3, rfl⟩ := ht3.shape
  have hm3 := hm2.since hs3
  have hp3 := hp2.since hs3
  go_wp2_with fail
  refine (copyArgs_any hm3 (by omega) qL).mono ?_
  rintro e wo ⟨vo, Uo, rfl, _, hso, hmo, _⟩
  obtain ⟨ao, co, rfl⟩ := hmo.top.shape
  have hpo := hp3.since hso
  have hto := ht3.since hso
  have hma := hm3.since hso
  go_wp2_with fail
  have hmo' : Mat wo 0 (.slice ao n1 co) n1 Uo L S := ⟨hmo.top.mono (Nat.zero_le _), fun r hr => (hmo.row r hr).mono (Nat.zero_le _)⟩
  refine (build_any (hpo.mono (Nat.zero_le _)) hmo' (hto.mono (Nat.zero_le _)) (by omega) (by omega) (by omega)).mono ?_
  rintro e w4 ⟨rfl, hs4, hlt4, hr4⟩
  obtain ⟨L5, eL⟩ : ∃ f : Nat → Nat, f = fun i => if i < n1 then L i else 0 := ⟨_, rfl⟩
  obtain ⟨T5, eT⟩ : ∃ f : Nat → Int, f = fun i => if i < n2 then T i else 0 := ⟨_, rfl⟩
  rw [← eT] at hr4
  have hV4 : ∀ r, r < n0 → Row w4 0 ((fun i => if i < n1 then Uo i else .slice none 0 0) r) (L5 r) fun j => .string (S r j) := by
    intro r _
    by_cases h : r < n1
    · simpa [h, eL] using (hmo'.row r h).since hs4
    · simpa [h, eL] using Row.nil w4 0 fun j => .string (S r j)
  have hs14 := since_trans (since_trans (since_trans (since_trans hs1 hs2) hs3) hso) hs4
  have hm4 := hma.since hs4
  clear hp hm ht hp1 hm1 ht1 hp2 hm2 ht2 hp3 hm3 ht3 hmo hmo' hpo hto hma hs1 hs2 hs3 hso hs4
  go_wp2_with fail
  have hL5 : ∀ r, r < n0 → L5 r ≤ 65536 := by
    intro r _
    by_cases h : r < n1
    · have := (q3 r h).1
      simp [h, eL]; omega
    · simp [h, eL]
  have hS5 : ∀ r, r < n0 → ∀ j, j < L5 r → (S r j).size ≤ 1048576 := by
    intro r _ j hj
    by_cases h : r < n1
    · simp [h, eL] at hj
      exact (q3 r h).2 j hj
    · simp [h, eL] at hj
  refine (zzClone_any w4 wo.heap.size n0 n0 p _ _ _ S 0 hr4 hV4 (by omega) (fun r hr => by have := hL5 r hr; omega) hS5).mono ?_
  rintro e w5 ⟨oa, oc, U5, rfl, hs5, hR⟩
  have hs15 := since_trans hs14 hs5
  -- what the comparison reads, in whatever world that is as w4 was
  have HX : Hid (∀ (wz : World) (k : Nat), w4.Since w4.heap.size wz → k < n0 →
      (k < n1 → ∃ ab ax m ca cc cb cx ra rc rb rx, m ≤ 1048576 ∧ a2 = some ⟨ab, ax, none⟩ ∧ wz.cell? ⟨ab, ax + k, none⟩ = some (.slice ra m rc) ∧ wz.cell? ⟨wo.heap.size, k * 3 + 1, none⟩ = some (.slice ca m cc) ∧
        ∀ j, j < m → ca = some ⟨cb, cx, none⟩ ∧ ra = some ⟨rb, rx, none⟩ ∧ wz.cell? ⟨cb, cx + j, none⟩ = some (.string (S k j)) ∧ wz.cell? ⟨rb, rx + j, none⟩ = some (.string (S k j))) ∧
      (¬ k < n1 → wz.cell? ⟨wo.heap.size, k * 3 + 1, none⟩ = some (.slice none 0 0))) := by
    intro wz k hsz hk
    have g := (hr4.of_block (hsz.block _ hr4.lt)).cell (i := k * 3 + 1) (by omega)
    rw [cells3_1] at g
    refine ⟨fun h => ?_, fun h => by simpa [h] using g⟩
    obtain ⟨ca, cb, cx, cc, hcv, _, hca, hcc⟩ := (hV4 k hk).since hsz
    simp only [h, if_true, eL] at hcv hca hcc g
    have hmz := hm4.since hsz
    obtain ⟨xa, ab, ax, xc, hav, _, haa, hac⟩ := hmz.top
    obtain ⟨ra, rb, rx, rc, hrv, _, hra, hrc⟩ := hmz.row k h
    have e1 : a2 = xa := by injection hav
    refine ⟨ab, ax, L k, ca, cc, cb, cx, ra, rc, rb, rx, by have := (q3 k h).1; omega, by rw [e1]; exact (haa (by omega)).1, by rw [hac k h, hrv], by rw [g, hcv], fun j hj => ⟨(hca (by omega)).1, (hra (by omega)).1, hcc j hj, hrc j hj⟩⟩
  -- what the overwriting reads
  have HR : Hid (0 < n0 → oa = some ⟨w4.heap.size, 0, none⟩ ∧ Spoilt w4 w5 n0 1048576 p U5 T5 L5) := hR
  have HL : Hid (∀ r, r < n0 → L5 r ≤ 65536) := hL5
  clear eL eT hR hr4 hV4 hL5 hS5 q3 qL hs15 hlt4 hm4
  go_wp2
  go_loopg [10] n0 (fun g i wx => ∃ k : Nat, k ≤ n0 ∧ g = n0 - k ∧ i = .int .i64 k ∧ w4.Since w4.heap.size wx ∧ (0 < n0 → Spoilt w4 wx n0 (1048576 + k * 65536) p U5 T5 L5))
  case atStart => exact ⟨0, Nat.zero_le _, rfl, rfl, hs5, fun h => (HR.out h).2⟩
  case round =>
    obtain ⟨k, hk, rfl, rfl, hsx, hsp⟩ := hrel
    have HS : Hid (0 < n0 → Spoilt w4 wr n0 (1048576 + k * 65536) p U5 T5 L5) := hsp
    clear hsp
    by_cases hlt : k < n0
    · have hkz : (k : Int) < (n0 : Int) := by omega
      obtain ⟨rfl, _⟩ := HR.out (by omega)
      have hsp := HS.out (by omega)
      have hLk := HL.out k hlt
      clear HS
      go_wp2
      go_loopg [11] (L5 k) (fun g i wx => ∃ j : Nat, j ≤ L5 k ∧ g = L5 k - j ∧ i = .int .i64 j ∧ Spoilt w4 wx n0 (1048576 + k * 65536 + j) p U5 T5 L5)
      case atStart => exact ⟨0, Nat.zero_le _, rfl, rfl, hsp⟩
      case round =>
        clear hsp
        obtain ⟨j, hj, rfl, rfl, hsp⟩ := hrel
        have g1 := hsp.top.cell (i := k * 3 + 1) (by omega)
        rw [cells3_1] at g1
        have hrow := hsp.row k hlt
        by_cases hlj : j < L5 k
        · have hjz : (j : Int) < (L5 k : Int) := by omega
          rcases hrow with ⟨_, hz⟩ | ⟨g, gc, hv, hg, hc⟩
          · omega
          obtain ⟨⟨s, hs, hsz⟩, hf⟩ := hc j hlj
          rw [hv] at g1
          clear hc
          have hadd : ∀ wy, (Op.stringOp .add s ⟨#[35]⟩).run Try.prog wy = .ok (.string (s ++ ⟨#[35]⟩)) wy := fun wy => run_string_add_sum _ s _ (by have : (⟨#[35]⟩ : ByteArray).size = 1 := rfl; omega)
          have HT : Hid ((s ++ ⟨#[35]⟩ : ByteArray).size ≤ 1048576 + k * 65536 + (j + 1)) := by
            show _ ≤ _
            rw [ByteArray.size_append]
            have : (⟨#[35]⟩ : ByteArray).size = 1 := rfl
            omega
          go_wp2
          go_roundg (L5 k - (j + 1))
          case measure => omega
          case rel => exact ⟨j + 1, by omega, rfl, by go_num, hsp.set hg hs HT.out (by omega)⟩
        · obtain ⟨ua, uc, hv⟩ : ∃ a c, U5 k = .slice a (L5 k) c := by
            rcases hrow with ⟨h1, h2⟩ | ⟨g, gc, h1, _⟩
            · exact ⟨none, 0, by rw [h1, h2]⟩
            · exact ⟨_, _, h1⟩
          rw [hv] at g1
          clear hrow
          go_wp2
          go_roundg (n0 - (k + 1))
          case measure => omega
          case rel => exact ⟨k + 1, by omega, rfl, by go_num, hsp.since, fun _ => hsp.drewN (by omega)⟩
    · clear HS HR HL
      go_wp2
      go_loopg [13] n0 (fun g i wx => ∃ k : Nat, k ≤ n0 ∧ g = n0 - k ∧ i = .int .i64 k ∧ w4.Since w4.heap.size wx)
      case atStart => exact ⟨0, Nat.zero_le _, rfl, rfl, hsx⟩
      case round =>
        clear hsx
        obtain ⟨q, hq, rfl, rfl, hsx⟩ := hrel
        by_cases hlq : q < n0
        · have hqz : (q : Int) < (n0 : Int) := by omega
          obtain ⟨X1, X2⟩ := HX.out wr q hsx hlq
          by_cases h1 : q < n1
          · obtain ⟨ab, ax, m, ca, cc, cb, cx, ra, rc, rb, rx, hm, rfl, g1, g2, hel⟩ := X1 h1
            have h1z : (q : Int) < (n1 : Int) := by omega
            have HE : Hid (∀ j, j < m → ca = some ⟨cb, cx, none⟩ ∧ ra = some ⟨rb, rx, none⟩ ∧ wr.cell? ⟨cb, cx + j, none⟩ = some (.string (S q j)) ∧ wr.cell? ⟨rb, rx + j, none⟩ = some (.string (S q j))) := hel
            clear hel X1 X2
            go_wp2
            go_loopg [15] m (fun g i wx => ∃ j : Nat, j ≤ m ∧ g = m - j ∧ i = .int .i64 j ∧ wr.Since wr.heap.size wx)
            case atStart => exact ⟨0, Nat.zero_le _, rfl, rfl, World.Since.refl _ _⟩
            case round =>
              obtain ⟨j, hj, rfl, rfl, hsy⟩ := hrel
              by_cases hlj : j < m
              · have hjz : (j : Int) < (m : Int) := by omega
                obtain ⟨rfl, rfl, i7, i8⟩ := HE.out j hlj
                have i2 := (hsy.cell (a := ⟨wo.heap.size, q * 3 + 1, none⟩) (World.block_lt_of_cell? _ _ g2)).trans g2
                have j7 := (hsy.cell (a := ⟨cb, cx + j, none⟩) (World.block_lt_of_cell? _ _ i7)).trans i7
                have j8 := (hsy.cell (a := ⟨rb, rx + j, none⟩) (World.block_lt_of_cell? _ _ i8)).trans i8
                clear g1 g2 i7 i8
                go_wp2
                go_quiet (fail)
                go_wp2
                go_roundg (m - (j + 1))
                case measure => omega
                case rel => exact ⟨j + 1, by omega, rfl, by go_num, since_drewN hsy _⟩
              · clear g1 g2
                go_wp2
                go_roundg (n0 - (q + 1))
                case measure => omega
                case rel => exact ⟨q + 1, by omega, rfl, by go_num, since_trans hsx hsy⟩
          · have g2 := X2 h1
            clear X1 X2
            go_wp2
            go_loopg [15] 0 (fun _ i wx => i = .int .i64 0 ∧ wx = wr)
            case atStart => exact ⟨rfl, rfl⟩
            case round =>
              obtain ⟨rfl, rfl⟩ := hrel
              go_wp2
              go_roundg (n0 - (q + 1))
              case measure => omega
              case rel => exact ⟨q + 1, by omega, rfl, by go_num, hsx⟩
        · clear HX
          go_wp2
          go_ret
          exact ⟨rfl, since_trans hs14 hsx⟩

end Go.Proofs.Qxb6000533a
