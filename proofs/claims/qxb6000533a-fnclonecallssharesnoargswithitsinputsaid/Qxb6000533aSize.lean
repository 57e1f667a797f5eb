import Derived.Test.Qxb6000533aCopy
namespace Go.Proofs.Qxb6000533a
open Go.RowKit Go.Deep

/-- What zzCallsTooBig's answer 'no' says. -/
def Small (n0 n1 n2 : Nat) (L : Nat → Nat) (S : Nat → Nat → ByteArray) : Prop :=
  n0 ≤ 65536 ∧ n1 ≤ 65536 ∧ n2 ≤ 65536 ∧ ∀ r, r < n1 → L r ≤ 65536 ∧ ∀ j, j < L r → (S r j).size ≤ 1048576

/-- How zzCallsTooBig ends (a word of its own: the walk's simp does not look behind it). -/
def SizeSaid (w : World) (n0 n1 n2 : Nat) (L : Nat → Nat) (S : Nat → Nat → ByteArray) (e : Ending) (w' : World) : Prop :=
  ∃ r : Bool, e = .returned (.bool r) ∧ w = w' ∧ (r = false → Small n0 n1 n2 L S)

theorem SizeSaid.yes {w : World} {n0 n1 n2 : Nat} {L : Nat → Nat} {S : Nat → Nat → ByteArray} : SizeSaid w n0 n1 n2 L S (.returned (.bool true)) w := ⟨true, rfl, rfl, fun h => by cases h⟩
theorem SizeSaid.any {w : World} {n0 n1 n2 : Nat} {L : Nat → Nat} {S : Nat → Nat → ByteArray} (h : Small n0 n1 n2 L S) (b : Bool) : SizeSaid w n0 n1 n2 L S (.returned (.bool b)) w := ⟨b, rfl, rfl, fun _ => h⟩

set_option maxHeartbeats 1600000 in
theorem tooBig_any {w : World} {lo n0 n1 n2 : Nat} {vp va : Value} {ta : Option Addr} {tc : Nat} {p : Nat → ByteArray} {V : Nat → Value} {L : Nat → Nat} {S : Nat → Nat → ByteArray}
    (hp : Row w lo vp n0 fun i => .string (p i)) (hm : Mat w lo va n1 V L S) :
    Calls Try.prog 17 #[vp, va, .slice ta n2 tc] w (SizeSaid w n0 n1 n2 L S) := by
  obtain ⟨pa, pb, po, pc, rfl, _, hpa, hpc⟩ := hp
  obtain ⟨aa, ab, ao, ac, rfl, _, haa, hac⟩ := hm.top
  have hrow := hm.row
  clear hm
  by_cases b0 : (n0 : Int) ≤ 65536
  case neg =>
    go_enter Try.func17, Try.ntmps17
    go_wp2
    go_ret
    exact SizeSaid.yes
  by_cases b1 : (n1 : Int) ≤ 65536
  case neg =>
    go_enter Try.func17, Try.ntmps17
    go_wp2
    go_ret
    exact SizeSaid.yes
  by_cases b2 : (n2 : Int) ≤ 65536
  case neg =>
    go_enter Try.func17, Try.ntmps17
    go_wp2
    go_ret
    exact SizeSaid.yes
  by_cases bt : 16 * (n0 : Int) + 24 * (n1 : Int) + 8 * (n2 : Int) ≤ 1048576
  case neg =>
    go_enter Try.func17, Try.ntmps17
    go_wp2
    go_ret
    exact SizeSaid.yes
  go_enter Try.func17, Try.ntmps17
  go_wp2
  go_loopg [7, 8] n0 (fun g s i wr => wr = w ∧ ∃ k : Nat, k ≤ n0 ∧ g = n0 - k ∧ i = .int .i64 k ∧ ∃ t : Int, 0 ≤ t ∧ t ≤ 1048576 ∧ s = .int .i64 t)
  case atStart => exact ⟨rfl, 0, Nat.zero_le _, rfl, rfl, _, by omega, by omega, rfl⟩
  case round =>
    obtain ⟨rfl, k, hk, rfl, rfl, t, ht0, ht1, rfl⟩ := hrel
    by_cases hlt : k < n0
    · obtain ⟨rfl, _⟩ := hpa (by omega)
      have hkz : (k : Int) < (n0 : Int) := by omega
      have c1 := hpc k hlt
      by_cases d1 : ((p k).size : Int) ≤ 1048576
      case neg =>
        go_wp2
        go_ret
        exact SizeSaid.yes
      by_cases d2 : t + ((p k).size : Int) ≤ 1048576
      case neg =>
        go_wp2
        go_ret
        exact SizeSaid.yes
      go_wp2
      go_roundg (n0 - (k + 1))
      case measure => omega
      case rel => exact ⟨rfl, k + 1, by omega, rfl, by go_num, _, by omega, d2, rfl⟩
    · clear hpc hpa
      go_wp2
      go_loopg [7, 9] n1 (fun g s i wx => wx = wr ∧ ∃ k : Nat, k ≤ n1 ∧ g = n1 - k ∧ i = .int .i64 k ∧ (∃ t : Int, 0 ≤ t ∧ t ≤ 1048576 ∧ s = .int .i64 t) ∧ ∀ r, r < k → L r ≤ 65536 ∧ ∀ j, j < L r → (S r j).size ≤ 1048576)
      case atStart => exact ⟨rfl, 0, Nat.zero_le _, rfl, rfl, ⟨_, ht0, ht1, rfl⟩, fun r hr => absurd hr (Nat.not_lt_zero _)⟩
      case round =>
        clear ht0 ht1
        obtain ⟨rfl, q, hq, rfl, rfl, ⟨t, ht0, ht1, rfl⟩, hsm⟩ := hrel
        have HS : Hid (∀ r, r < q → L r ≤ 65536 ∧ ∀ j, j < L r → (S r j).size ≤ 1048576) := hsm
        clear hsm
        by_cases hlq : q < n1
        · obtain ⟨rfl, _⟩ := haa (by omega)
          have hqz : (q : Int) < (n1 : Int) := by omega
          obtain ⟨ra, rb, ro, rc, hv, _, hra, hrc⟩ := hrow q hlq
          have c1 := hac q hlq
          rw [hv] at c1
          clear hac hrow haa
          by_cases d1 : (L q : Int) ≤ 65536
          case neg =>
            clear hrc
            go_wp2
            go_ret
            exact SizeSaid.yes
          by_cases d2 : t + 16 * (L q : Int) ≤ 1048576
          case neg =>
            clear hrc
            go_wp2
            go_ret
            exact SizeSaid.yes
          go_wp2
          go_loopg [7, 10] (L q) (fun g s i wx => wx = wr ∧ ∃ k : Nat, k ≤ L q ∧ g = L q - k ∧ i = .int .i64 k ∧ (∃ t : Int, 0 ≤ t ∧ t ≤ 1048576 ∧ s = .int .i64 t) ∧ ∀ j, j < k → (S q j).size ≤ 1048576)
          case atStart => exact ⟨rfl, 0, Nat.zero_le _, rfl, rfl, ⟨_, by omega, d2, rfl⟩, fun r hr => absurd hr (Nat.not_lt_zero _)⟩
          case round =>
            clear ht0 ht1 d2
            obtain ⟨rfl, m, hm, rfl, rfl, ⟨t, ht0, ht1, rfl⟩, hsm⟩ := hrel
            have HM : Hid (∀ j, j < m → (S q j).size ≤ 1048576) := hsm
            clear hsm
            by_cases hlm : m < L q
            · obtain ⟨rfl, _⟩ := hra (by omega)
              have hmz : (m : Int) < (L q : Int) := by omega
              have c2 := hrc m hlm
              clear hrc
              by_cases e1 : ((S q m).size : Int) ≤ 1048576
              case neg =>
                go_wp2
                go_ret
                exact SizeSaid.yes
              by_cases e2 : t + ((S q m).size : Int) ≤ 1048576
              case neg =>
                go_wp2
                go_ret
                exact SizeSaid.yes
              go_wp2
              go_roundg (L q - (m + 1))
              case measure => omega
              case rel => exact ⟨rfl, m + 1, by omega, rfl, by go_num, ⟨_, by omega, e2, rfl⟩, fun j hj => by
                by_cases e : j = m
                · subst e; omega
                · exact HM.out j (by omega)⟩
            · clear hrc
              go_wp2
              go_roundg (n1 - (q + 1))
              case measure => omega
              case rel => exact ⟨rfl, q + 1, by omega, rfl, by go_num, ⟨_, ht0, ht1, rfl⟩, fun r hr => by
                by_cases e : r = q
                · subst e; exact ⟨by omega, fun j hj => HM.out j (by omega)⟩
                · exact HS.out r (by omega)⟩
        · clear hac hrow haa
          have hsm : Small n0 n1 n2 L S := ⟨by omega, by omega, by omega, fun r hr => HS.out r (by omega)⟩
          go_wp2
          go_ret
          exact SizeSaid.any hsm _

end Go.Proofs.Qxb6000533a
