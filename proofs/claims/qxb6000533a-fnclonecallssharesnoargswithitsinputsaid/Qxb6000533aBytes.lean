import Derived.Test.Qxb6000533aCopy
namespace Go.Proofs.Qxb6000533a
open Go.RowKit Go.Deep

/-- It returns some bool; the world is as it was. -/
def BoolSaid (w : World) (e : Ending) (w' : World) : Prop := ∃ r : Bool, e = .returned (.bool r) ∧ w = w'
theorem BoolSaid.mk' {w : World} (b : Bool) : BoolSaid w (.returned (.bool b)) w := ⟨b, rfl, rfl⟩

set_option maxHeartbeats 1600000 in
theorem bytes16 {w : World} {lo n0 n1 n2 : Nat} {vp va : Value} {ta : Option Addr} {tc : Nat} {p : Nat → ByteArray} {V : Nat → Value} {L : Nat → Nat} {S : Nat → Nat → ByteArray}
    (hp : Row w lo vp n0 fun i => .string (p i)) (hm : Mat w lo va n1 V L S) (hn2 : n2 ≤ maxLen) :
    Calls Try.prog 16 #[vp, va, .slice ta n2 tc] w (BoolSaid w) := by
  obtain ⟨pa, pb, po, pc, rfl, _, hpa, hpc⟩ := hp
  obtain ⟨aa, ab, ao, ac, rfl, _, haa, hac⟩ := hm.top
  have hrow := hm.row
  clear hm
  unfold maxLen at hn2
  by_cases b0 : (n0 : Int) ≤ 1048576
  case neg =>
    go_enter Try.func16, Try.ntmps16
    go_wp2
    go_ret
    exact BoolSaid.mk' _
  go_enter Try.func16, Try.ntmps16
  go_wp2
  go_loopg [7, 8] n0 (fun g s i wr => wr = w ∧ ∃ k : Nat, k ≤ n0 ∧ g = n0 - k ∧ i = .int .i64 k ∧ ∃ t : Int, 0 ≤ t ∧ t ≤ 1048576 ∧ s = .int .i64 t)
  case atStart => exact ⟨rfl, 0, Nat.zero_le _, rfl, rfl, _, by omega, b0, rfl⟩
  case round =>
    obtain ⟨rfl, k, hk, rfl, rfl, t, ht0, ht1, rfl⟩ := hrel
    by_cases hlt : k < n0
    · obtain ⟨rfl, _⟩ := hpa (by omega)
      have hkz : (k : Int) < (n0 : Int) := by omega
      have c1 := hpc k hlt
      by_cases d1 : ((p k).size : Int) ≤ 1048576
      case neg =>
        go_wp2
        go_ret
        exact BoolSaid.mk' _
      by_cases d2 : t + ((p k).size : Int) ≤ 1048576
      case neg =>
        go_wp2
        go_ret
        exact BoolSaid.mk' _
      go_wp2
      go_roundg (n0 - (k + 1))
      case measure => omega
      case rel => exact ⟨rfl, k + 1, by omega, rfl, by go_num, _, by omega, d2, rfl⟩
    · clear hpc hpa
      by_cases b1 : (n1 : Int) ≤ 1048576
      case neg =>
        clear hac hrow haa
        go_wp2
        go_ret
        exact BoolSaid.mk' _
      by_cases b2 : t + (n1 : Int) ≤ 1048576
      case neg =>
        clear hac hrow haa
        go_wp2
        go_ret
        exact BoolSaid.mk' _
      go_wp2
      go_loopg [7, 9] n1 (fun g s i wx => wx = wr ∧ ∃ k : Nat, k ≤ n1 ∧ g = n1 - k ∧ i = .int .i64 k ∧ ∃ t : Int, 0 ≤ t ∧ t ≤ 1048576 ∧ s = .int .i64 t)
      case atStart => exact ⟨rfl, 0, Nat.zero_le _, rfl, rfl, _, by omega, b2, rfl⟩
      case round =>
        clear ht0 ht1 b2
        obtain ⟨rfl, q, hq, rfl, rfl, t, ht0, ht1, rfl⟩ := hrel
        by_cases hlq : q < n1
        · obtain ⟨rfl, _⟩ := haa (by omega)
          have hqz : (q : Int) < (n1 : Int) := by omega
          obtain ⟨ra, rb, ro, rc, hv, _, hra, hrc⟩ := hrow q hlq
          have c1 := hac q hlq
          rw [hv] at c1
          clear hac hrow haa
          by_cases d1 : (L q : Int) ≤ 1048576
          case neg =>
            clear hrc
            go_wp2
            go_ret
            exact BoolSaid.mk' _
          by_cases d2 : t + (L q : Int) ≤ 1048576
          case neg =>
            clear hrc
            go_wp2
            go_ret
            exact BoolSaid.mk' _
          go_wp2
          go_loopg [7, 10] (L q) (fun g s i wx => wx = wr ∧ ∃ k : Nat, k ≤ L q ∧ g = L q - k ∧ i = .int .i64 k ∧ ∃ t : Int, 0 ≤ t ∧ t ≤ 1048576 ∧ s = .int .i64 t)
          case atStart => exact ⟨rfl, 0, Nat.zero_le _, rfl, rfl, _, by omega, d2, rfl⟩
          case round =>
            clear ht0 ht1 d2
            obtain ⟨rfl, m, hm, rfl, rfl, t, ht0, ht1, rfl⟩ := hrel
            by_cases hlm : m < L q
            · obtain ⟨rfl, _⟩ := hra (by omega)
              have hmz : (m : Int) < (L q : Int) := by omega
              have c2 := hrc m hlm
              clear hrc
              by_cases e1 : ((S q m).size : Int) ≤ 1048576
              case neg =>
                go_wp2
                go_ret
                exact BoolSaid.mk' _
              by_cases e2 : t + ((S q m).size : Int) ≤ 1048576
              case neg =>
                go_wp2
                go_ret
                exact BoolSaid.mk' _
              go_wp2
              go_roundg (L q - (m + 1))
              case measure => omega
              case rel => exact ⟨rfl, m + 1, by omega, rfl, by go_num, _, by omega, e2, rfl⟩
            · clear hrc
              go_wp2
              go_roundg (n1 - (q + 1))
              case measure => omega
              case rel => exact ⟨rfl, q + 1, by omega, rfl, by go_num, _, ht0, ht1, rfl⟩
        · clear hac hrow haa
          by_cases b3 : (n2 : Int) ≤ 1048576
          case neg =>
            go_wp2
            go_ret
            exact BoolSaid.mk' _
          by_cases b4 : t + (n2 : Int) ≤ 1048576
          case neg =>
            go_wp2
            go_ret
            exact BoolSaid.mk' _
          go_wp2
          go_ret
          exact BoolSaid.mk' _

set_option maxHeartbeats 1600000 in
theorem bytes23 {w : World} {lo n0 n1 n2 : Nat} {vp va : Value} {ta : Option Addr} {tc : Nat} {p : Nat → ByteArray} {V : Nat → Value} {L : Nat → Nat} {S : Nat → Nat → ByteArray}
    (hp : Row w lo vp n0 fun i => .string (p i)) (hm : Mat w lo va n1 V L S) (hn2 : n2 ≤ maxLen) :
    Calls Try.prog 23 #[vp, va, .slice ta n2 tc] w (BoolSaid w) := by
  obtain ⟨pa, pb, po, pc, rfl, _, hpa, hpc⟩ := hp
  obtain ⟨aa, ab, ao, ac, rfl, _, haa, hac⟩ := hm.top
  have hrow := hm.row
  clear hm
  unfold maxLen at hn2
  by_cases b0 : (n0 : Int) ≤ 1048576
  case neg =>
    go_enter Try.func23, Try.ntmps23
    go_wp2
    go_ret
    exact BoolSaid.mk' _
  go_enter Try.func23, Try.ntmps23
  go_wp2
  go_loopg [7, 8] n0 (fun g s i wr => wr = w ∧ ∃ k : Nat, k ≤ n0 ∧ g = n0 - k ∧ i = .int .i64 k ∧ ∃ t : Int, 0 ≤ t ∧ t ≤ 1048576 ∧ s = .int .i64 t)
  case atStart => exact ⟨rfl, 0, Nat.zero_le _, rfl, rfl, _, by omega, b0, rfl⟩
  case round =>
    obtain ⟨rfl, k, hk, rfl, rfl, t, ht0, ht1, rfl⟩ := hrel
    by_cases hlt : k < n0
    · obtain ⟨rfl, _⟩ := hpa (by omega)
      have hkz : (k : Int) < (n0 : Int) := by omega
      have c1 := hpc k hlt
      by_cases d1 : ((p k).size : Int) ≤ 1048576
      case neg =>
        go_wp2
        go_ret
        exact BoolSaid.mk' _
      by_cases d2 : t + ((p k).size : Int) ≤ 1048576
      case neg =>
        go_wp2
        go_ret
        exact BoolSaid.mk' _
      go_wp2
      go_roundg (n0 - (k + 1))
      case measure => omega
      case rel => exact ⟨rfl, k + 1, by omega, rfl, by go_num, _, by omega, d2, rfl⟩
    · clear hpc hpa
      by_cases b1 : (n1 : Int) ≤ 1048576
      case neg =>
        clear hac hrow haa
        go_wp2
        go_ret
        exact BoolSaid.mk' _
      by_cases b2 : t + (n1 : Int) ≤ 1048576
      case neg =>
        clear hac hrow haa
        go_wp2
        go_ret
        exact BoolSaid.mk' _
      go_wp2
      go_loopg [7, 9] n1 (fun g s i wx => wx = wr ∧ ∃ k : Nat, k ≤ n1 ∧ g = n1 - k ∧ i = .int .i64 k ∧ ∃ t : Int, 0 ≤ t ∧ t ≤ 1048576 ∧ s = .int .i64 t)
      case atStart => exact ⟨rfl, 0, Nat.zero_le _, rfl, rfl, _, by omega, b2, rfl⟩
      case round =>
        clear ht0 ht1 b2
        obtain ⟨rfl, q, hq, rfl, rfl, t, ht0, ht1, rfl⟩ := hrel
        by_cases hlq : q < n1
        · obtain ⟨rfl, _⟩ := haa (by omega)
          have hqz : (q : Int) < (n1 : Int) := by omega
          obtain ⟨ra, rb, ro, rc, hv, _, hra, hrc⟩ := hrow q hlq
          have c1 := hac q hlq
          rw [hv] at c1
          clear hac hrow haa
          by_cases d1 : (L q : Int) ≤ 1048576
          case neg =>
            clear hrc
            go_wp2
            go_ret
            exact BoolSaid.mk' _
          by_cases d2 : t + (L q : Int) ≤ 1048576
          case neg =>
            clear hrc
            go_wp2
            go_ret
            exact BoolSaid.mk' _
          go_wp2
          go_loopg [7, 10] (L q) (fun g s i wx => wx = wr ∧ ∃ k : Nat, k ≤ L q ∧ g = L q - k ∧ i = .int .i64 k ∧ ∃ t : Int, 0 ≤ t ∧ t ≤ 1048576 ∧ s = .int .i64 t)
          case atStart => exact ⟨rfl, 0, Nat.zero_le _, rfl, rfl, _, by omega, d2, rfl⟩
          case round =>
            clear ht0 ht1 d2
            obtain ⟨rfl, m, hm, rfl, rfl, t, ht0, ht1, rfl⟩ := hrel
            by_cases hlm : m < L q
            · obtain ⟨rfl, _⟩ := hra (by omega)
              have hmz : (m : Int) < (L q : Int) := by omega
              have c2 := hrc m hlm
              clear hrc
              by_cases e1 : ((S q m).size : Int) ≤ 1048576
              case neg =>
                go_wp2
                go_ret
                exact BoolSaid.mk' _
              by_cases e2 : t + ((S q m).size : Int) ≤ 1048576
              case neg =>
                go_wp2
                go_ret
                exact BoolSaid.mk' _
              go_wp2
              go_roundg (L q - (m + 1))
              case measure => omega
              case rel => exact ⟨rfl, m + 1, by omega, rfl, by go_num, _, by omega, e2, rfl⟩
            · clear hrc
              go_wp2
              go_roundg (n1 - (q + 1))
              case measure => omega
              case rel => exact ⟨rfl, q + 1, by omega, rfl, by go_num, _, ht0, ht1, rfl⟩
        · clear hac hrow haa
          by_cases b3 : (n2 : Int) ≤ 1048576
          case neg =>
            go_wp2
            go_ret
            exact BoolSaid.mk' _
          by_cases b4 : t + (n2 : Int) ≤ 1048576
          case neg =>
            go_wp2
            go_ret
            exact BoolSaid.mk' _
          go_wp2
          go_ret
          exact BoolSaid.mk' _

end Go.Proofs.Qxb6000533a
