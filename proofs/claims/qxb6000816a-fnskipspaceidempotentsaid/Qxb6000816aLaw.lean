import Derived.Test.Qxb6000816aSkip
namespace Go.Proofs.Qxb6000816a
open Go.RowKit Go.Deep

def StillSaid (w : World) (e : Ending) (w' : World) : Prop := e = .returned (.tuple #[]) ∧ ∃ n, w' = w.drewN n

/-- Where skipSpace would stop it does nothing. -/
theorem skip_still {w : World} {b : Nat} {s : ByteArray} {k : Nat} {l : Int} (h : Scan w b s k l) (_hk : k ≤ s.size) (hst : Stop s k) :
    Calls Try.prog 27 #[.pointer (some ⟨b, 0, none⟩)] w (StillSaid w) := by
  by_cases hj : k < s.size
  · have d1 := done_no h hj
    have d2 := fun n => peek_no (h.drewN n) hj
    have e : byteAt s k ≠ 10 ∧ byteAt s k ≠ 32 ∧ byteAt s k ≠ 9 ∧ byteAt s k ≠ 13 ∧ byteAt s k ≠ 35 := by
      rcases hst with h1 | h1
      · omega
      · exact h1
    obtain ⟨c, hc⟩ : ∃ c, c = byteAt s k := ⟨_, rfl⟩
    rw [← hc] at d2 e
    obtain ⟨e1, e2, e3, e4, e5⟩ := e
    have g1 : (c == 10) = false := by simpa using e1
    have g2 : (c == 32) = false := by simpa using e2
    have g3 : (c == 9) = false := by simpa using e3
    have g4 : (c == 13) = false := by simpa using e4
    have g5 : (c == 35) = false := by simpa using e5
    clear e1 e2 e3 e4 e5 hc hst h
    go_enter Try.func27, Try.ntmps27
    go_wp2
    go_loopg [2] 0 (fun _ _ wr => wr = w)
    case atStart => rfl
    case round =>
      subst hrel
      go_wp2_with (first | (go_at_call 31; refine d1.mono ?_; rintro e w' ⟨rfl, n, rfl⟩) | (go_at_call 32; refine (d2 _).mono ?_; rintro e w' ⟨rfl, n2, rfl⟩))
      go_end0
      exact ⟨rfl, _, rfl⟩
  · have d1 := done_yes h hj
    clear hst h
    go_enter Try.func27, Try.ntmps27
    go_wp2
    go_loopg [2] 0 (fun _ _ wr => wr = w)
    case atStart => rfl
    case round =>
      subst hrel
      go_wp2_with (go_at_call 31; refine d1.mono ?_; rintro e w' ⟨rfl, n, rfl⟩)
      go_end0
      exact ⟨rfl, _, rfl⟩

theorem scan_new (w : World) (s : ByteArray) (i l : Int) : Scan (w.alloc (.cells #[.string s, .int .i64 i, .int .i64 l, .slice none 0 0] 37)) w.heap.size s i l := blk_alloc_new _ _

theorem since_new (w : World) (o : Obj) : w.Since w.heap.size (w.alloc o) := (World.Since.refl _ _).alloc (Nat.le_refl _) _

theorem since_drewN {B : Nat} {w w' : World} (h : w.Since B w') (n : Nat) : w.Since B (w'.drewN n) := ⟨h.os, h.tape, h.output, h.size, h.block⟩

/-- ZZSkipSpace. -/
theorem zz_any {w : World} {s : ByteArray} {k : Nat} {l : Int} (hk : k ≤ s.size) (hs : s.size ≤ 1048576) (hl0 : -2147483648 ≤ l) (hl1 : l ≤ 2147483648) :
    Calls Try.prog 11 #[.string s, .int .i64 k, .int .i64 l] w fun e w' => ∃ (j : Nat) (m : Int), e = .returned (.tuple #[.int .i64 j, .int .i64 m]) ∧ k ≤ j ∧ j ≤ s.size ∧ l ≤ m ∧ m ≤ l + ((j : Int) - (k : Int)) ∧ Stop s j ∧ w.Since w.heap.size w' := by
  have hc := skip_any (scan_new w s k l) hk hs hl0 hl1
  have hn := since_new w (.cells #[.string s, .int .i64 k, .int .i64 l, .slice none 0 0] 37)
  go_enter Try.func11, Try.ntmps11
  go_wp2_with (go_at_call 27; refine hc.mono ?_; rintro e w' ⟨rfl, j, m, hA, hst⟩; have c1 := hA.scan.off; have c2 := hA.scan.line)
  go_quiet (fail)
  go_wp2
  go_ret2
  exact ⟨j, m, rfl, hA.lo, hA.hi, hA.m0, hA.m1, hst, since_drewN (hn.trans hA.since) _⟩

/-- ZZSkipSpace where skipSpace would stop. -/
theorem zz_still {w : World} {s : ByteArray} {k : Nat} {l : Int} (hk : k ≤ s.size) (hst : Stop s k) :
    Calls Try.prog 11 #[.string s, .int .i64 k, .int .i64 l] w fun e w' => e = .returned (.tuple #[.int .i64 k, .int .i64 l]) ∧ w.Since w.heap.size w' := by
  have hc := skip_still (scan_new w s k l) hk hst
  have hn := since_new w (.cells #[.string s, .int .i64 k, .int .i64 l, .slice none 0 0] 37)
  have c1 := (scan_new w s k l).off
  have c2 := (scan_new w s k l).line
  go_enter Try.func11, Try.ntmps11
  go_wp2_with (go_at_call 27; refine hc.mono ?_; rintro e w' ⟨rfl, n, rfl⟩)
  go_quiet (fail)
  go_wp2
  go_ret2
  exact ⟨rfl, since_drewN (since_drewN hn _) _⟩

def TrueSaid (w : World) (e : Ending) (w' : World) : Prop := e = .returned (.bool true) ∧ w.Since w.heap.size w'

set_option maxHeartbeats 800000 in
theorem law_walk (s : ByteArray) (i l : Int) (hs : s.size ≤ maxLen) (w : World) : Calls Try.prog 4 #[.string s, .int .i64 i, .int .i64 l] w (TrueSaid w) := by
  unfold maxLen at hs
  by_cases b0 : (s.size : Int) ≤ 1048576
  case neg =>
    go_enter Try.func4, Try.ntmps4
    go_wp2
    go_ret
    exact ⟨rfl, World.Since.refl _ _⟩
  by_cases b1 : 0 ≤ i
  case neg =>
    go_enter Try.func4, Try.ntmps4
    go_wp2
    go_ret
    exact ⟨rfl, World.Since.refl _ _⟩
  by_cases b2 : i ≤ (s.size : Int)
  case neg =>
    go_enter Try.func4, Try.ntmps4
    go_wp2
    go_ret
    exact ⟨rfl, World.Since.refl _ _⟩
  by_cases b3 : -1073741824 ≤ l
  case neg =>
    go_enter Try.func4, Try.ntmps4
    go_wp2
    go_ret
    exact ⟨rfl, World.Since.refl _ _⟩
  by_cases b4 : l ≤ 1073741824
  case neg =>
    go_enter Try.func4, Try.ntmps4
    go_wp2
    go_ret
    exact ⟨rfl, World.Since.refl _ _⟩
  obtain ⟨k, rfl⟩ : ∃ k : Nat, i = (k : Int) := ⟨i.toNat, by omega⟩
  have hc := zz_any (w := w) (s := s) (k := k) (l := l) (by omega) (by omega) (by omega) (by omega)
  go_enter Try.func4, Try.ntmps4
  go_wp2_with (go_at_call 14; go_in)
  refine hc.mono ?_
  rintro e w1 ⟨j, m, rfl, hj0, hj1, hm0, hm1, hst, hs1⟩
  clear hc
  have hd := zz_still (w := w1) (l := m) hj1 hst
  have t1 : ¬ ((j : Int) < (k : Int)) := by omega
  have t2 : (j : Int) ≤ (s.size : Int) := by omega
  go_wp2_with fail
  refine hd.mono ?_
  rintro e w2 ⟨rfl, hs2⟩
  clear hd
  go_wp2
  go_ret
  exact ⟨rfl, hs1.trans ⟨hs2.os, hs2.tape, hs2.output, hs2.size, fun x hx => hs2.block x (Nat.lt_of_lt_of_le hx hs1.size)⟩⟩

end Go.Proofs.Qxb6000816a
