import Derived.Test.Qxb6000816aScan
namespace Go.Proofs.Qxb6000816a
open Go.RowKit Go.Deep

/-- skipSpace stops here: the end, or a byte that is no blank and opens no comment. -/
def Stop (s : ByteArray) (k : Nat) : Prop := k = s.size ∨ (byteAt s k ≠ 10 ∧ byteAt s k ≠ 32 ∧ byteAt s k ≠ 9 ∧ byteAt s k ≠ 13 ∧ byteAt s k ≠ 35)

/-- Where skipSpace has come to, from offset k and line l: offset j, line m. -/
structure At (w wr : World) (b : Nat) (s : ByteArray) (k : Nat) (l : Int) (j : Nat) (m : Int) : Prop where
  lo : k ≤ j
  hi : j ≤ s.size
  m0 : l ≤ m
  m1 : m ≤ l + ((j : Int) - (k : Int))
  scan : Scan wr b s j m
  since : w.Since b wr
  size : wr.heap.size = w.heap.size

def SkipSaid (w : World) (b : Nat) (s : ByteArray) (k : Nat) (l : Int) (e : Ending) (w' : World) : Prop := e = .returned (.tuple #[]) ∧ ∃ j m, At w w' b s k l j m ∧ Stop s j

theorem At.drewN {w wr : World} {b : Nat} {s : ByteArray} {k j : Nat} {l m : Int} (h : At w wr b s k l j m) (n : Nat) : At w (wr.drewN n) b s k l j m :=
  ⟨h.lo, h.hi, h.m0, h.m1, h.scan, ⟨h.since.os, h.since.tape, h.since.output, h.since.size, h.since.block⟩, h.size⟩

/-- 's.i++'. -/
theorem At.step {w wr : World} {b : Nat} {s : ByteArray} {k j : Nat} {l m : Int} (h : At w wr b s k l j m) (hj : j < s.size) : At w (wr.setCell ⟨b, 1, none⟩ (.int .i64 ((j : Int) + 1))) b s k l (j + 1) m :=
  ⟨by have := h.lo; omega, hj, h.m0, by have := h.m1; omega, by have := h.scan.setOff ((j : Int) + 1); simpa using this, h.since.setCell (Nat.le_refl _) _, by simpa using h.size⟩

/-- 's.line++; s.i++'. -/
theorem At.next {w wr : World} {b : Nat} {s : ByteArray} {k j : Nat} {l m : Int} (h : At w wr b s k l j m) (hj : j < s.size) :
    At w ((wr.setCell ⟨b, 2, none⟩ (.int .i64 (m + 1))).setCell ⟨b, 1, none⟩ (.int .i64 ((j : Int) + 1))) b s k l (j + 1) (m + 1) :=
  ⟨by have := h.lo; omega, hj, by have := h.m0; omega, by have := h.m1; omega, by have := (h.scan.setLine (m + 1)).setOff ((j : Int) + 1); simpa using this, (h.since.setCell (Nat.le_refl _) _).setCell (Nat.le_refl _) _, by simpa using h.size⟩

set_option maxHeartbeats 1600000 in
theorem skip_any {w : World} {b : Nat} {s : ByteArray} {k : Nat} {l : Int} (h : Scan w b s k l) (hk : k ≤ s.size) (hs : s.size ≤ 1048576) (hl0 : -2147483648 ≤ l) (hl1 : l ≤ 2147483648) :
    Calls Try.prog 27 #[.pointer (some ⟨b, 0, none⟩)] w (SkipSaid w b s k l) := by
  have h0 : At w w b s k l k l := ⟨Nat.le_refl _, hk, Int.le_refl _, by omega, h, World.Since.refl _ _, rfl⟩
  clear h
  go_enter Try.func27, Try.ntmps27
  go_wp2
  go_loopg [2] (s.size - k) (fun g _ wr => ∃ j m, g = s.size - j ∧ At w wr b s k l j m)
  case atStart => exact ⟨k, l, rfl, h0⟩
  case round =>
    clear h0
    obtain ⟨j, m, rfl, hA⟩ := hrel
    have hlo := hA.lo
    have hm0 := hA.m0
    have hm1 := hA.m1
    have hjs := hA.hi
    by_cases hj : j < s.size
    · have d1 := done_no hA.scan hj
      have d2 := fun n => peek_no (hA.scan.drewN n) hj
      obtain ⟨c, hc⟩ : ∃ c, c = byteAt s j := ⟨_, rfl⟩
      rw [← hc] at d2
      have HC : Hid (c = byteAt s j) := hc
      clear hc
      rcases (show c = 10 ∨ (c = 32 ∨ c = 9 ∨ c = 13) ∨ c = 35 ∨ (c ≠ 10 ∧ c ≠ 32 ∧ c ≠ 9 ∧ c ≠ 13 ∧ c ≠ 35) by omega) with e | e | e | e
      · subst e
        have c1 := hA.scan.off
        have c2 := hA.scan.line
        have f1 := hA.scan.free 1
        have f2 := hA.scan.free 2
        go_wp2_with (first | (go_at_call 31; refine d1.mono ?_; rintro e w' ⟨rfl, n, rfl⟩) | (go_at_call 32; refine (d2 _).mono ?_; rintro e w' ⟨rfl, n2, rfl⟩))
        go_roundg (s.size - (j + 1))
        case measure => omega
        case rel => exact ⟨j + 1, m + 1, rfl, (hA.drewN _).next hj⟩
      · have c1 := hA.scan.off
        have f1 := hA.scan.free 1
        rcases e with e | e | e
        all_goals
          subst e
          go_wp2_with (first | (go_at_call 31; refine d1.mono ?_; rintro e w' ⟨rfl, n, rfl⟩) | (go_at_call 32; refine (d2 _).mono ?_; rintro e w' ⟨rfl, n2, rfl⟩))
          go_roundg (s.size - (j + 1))
          case measure => omega
          case rel => exact ⟨j + 1, m, rfl, (hA.drewN _).step hj⟩
      · subst e
        go_wp2_with (first | (go_at_call 31; refine d1.mono ?_; rintro e w' ⟨rfl, n, rfl⟩) | (go_at_call 32; refine (d2 _).mono ?_; rintro e w' ⟨rfl, n2, rfl⟩))
        go_loopg [22] (s.size - j) (fun g _ wx => ∃ i, g = s.size - i ∧ j ≤ i ∧ At w wx b s k l i m)
        case atStart => exact ⟨j, rfl, Nat.le_refl _, hA.drewN _⟩
        case round =>
          clear d1 d2
          obtain ⟨i, rfl, hji, hB⟩ := hrel
          have his := hB.hi
          by_cases hi : i < s.size
          · have d1 := done_no hB.scan hi
            have d2 := fun n => peek_no (hB.scan.drewN n) hi
            obtain ⟨c, hc⟩ : ∃ c, c = byteAt s i := ⟨_, rfl⟩
            rw [← hc] at d2
            by_cases e10 : c = 10
            · have hne : i ≠ j := by
                intro e
                subst e
                have := HC.out
                omega
              clear HC hc
              subst e10
              go_wp2_with (first | (go_at_call 31; refine d1.mono ?_; rintro e w' ⟨rfl, n, rfl⟩) | (go_at_call 32; refine (d2 _).mono ?_; rintro e w' ⟨rfl, n2, rfl⟩))
              go_roundg (s.size - i)
              case measure => omega
              case rel => exact ⟨i, m, rfl, hB.drewN _⟩
            · have e10b : (c != 10) = true := by simpa using e10
              have c1 := hB.scan.off
              have f1 := hB.scan.free 1
              clear HC hc e10
              go_wp2_with (first | (go_at_call 31; refine d1.mono ?_; rintro e w' ⟨rfl, n, rfl⟩) | (go_at_call 32; refine (d2 _).mono ?_; rintro e w' ⟨rfl, n2, rfl⟩))
              go_roundg (s.size - (i + 1))
              case measure => omega
              case rel => exact ⟨i + 1, rfl, by omega, (hB.drewN _).step hi⟩
          · have d1 := done_yes hB.scan hi
            clear HC
            go_wp2_with (go_at_call 31; refine d1.mono ?_; rintro e w' ⟨rfl, n, rfl⟩)
            go_roundg (s.size - i)
            case measure => omega
            case rel => exact ⟨i, m, rfl, hB.drewN _⟩
      · obtain ⟨e1, e2, e3, e4, e5⟩ := e
        have hst : Stop s j := Or.inr (by rw [← HC.out]; exact ⟨e1, e2, e3, e4, e5⟩)
        have g1 : (c == 10) = false := by simpa using e1
        have g2 : (c == 32) = false := by simpa using e2
        have g3 : (c == 9) = false := by simpa using e3
        have g4 : (c == 13) = false := by simpa using e4
        have g5 : (c == 35) = false := by simpa using e5
        clear e1 e2 e3 e4 e5 HC
        go_wp2_with (first | (go_at_call 31; refine d1.mono ?_; rintro e w' ⟨rfl, n, rfl⟩) | (go_at_call 32; refine (d2 _).mono ?_; rintro e w' ⟨rfl, n2, rfl⟩))
        go_end0
        exact ⟨rfl, j, m, hA.drewN _, hst⟩
    · have d1 := done_yes hA.scan hj
      go_wp2_with (go_at_call 31; refine d1.mono ?_; rintro e w' ⟨rfl, n, rfl⟩)
      go_end0
      exact ⟨rfl, j, m, hA.drewN _, Or.inl (by omega)⟩

end Go.Proofs.Qxb6000816a
