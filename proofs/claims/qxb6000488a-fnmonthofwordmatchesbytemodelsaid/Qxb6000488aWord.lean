import Derived.Test.Qxb6000488aModel
namespace Go.Proofs.Qxb6000488a
open Go.RowKit

set_option maxHeartbeats 400000 in
theorem word_a (w0 : Int) (X : Nat → Int) (w : World) (hno : ¬ OkM X)
    (hA : (bits .and .u64 (IntKind.u64.wrap (bits .or .u64 w0 36169536663224448 - 13563576248709168)) 36169536663224448 == 36169536663224448) = false) :
    Calls Try.prog 24 #[.int .u64 w0] w (MonthSaid X w) := by
  go_enter Try.func24, Try.ntmps24
  go_wp2
  go_ret2
  exact month_no hno

set_option maxHeartbeats 400000 in
theorem word_b (w0 : Int) (X : Nat → Int) (w : World) (hno : ¬ OkM X)
    (hA : (bits .and .u64 (IntKind.u64.wrap (bits .or .u64 w0 36169536663224448 - 13563576248709168)) 36169536663224448 == 36169536663224448) = true)
    (hB : (bits .and .u64 (bits .or .u64 (IntKind.u64.wrap (bits .andNot .u64 w0 36169536663224448 + 5063812098665367110)) w0) 36169536663224448 == 0) = false) :
    Calls Try.prog 24 #[.int .u64 w0] w (MonthSaid X w) := by
  go_enter Try.func24, Try.ntmps24
  go_wp2
  go_ret2
  exact month_no hno

set_option maxHeartbeats 400000 in
theorem word_c (w0 : Int) (X : Nat → Int) (w : World) (hno : ¬ OkM X)
    (hA : (bits .and .u64 (IntKind.u64.wrap (bits .or .u64 w0 36169536663224448 - 13563576248709168)) 36169536663224448 == 36169536663224448) = true)
    (hB : (bits .and .u64 (bits .or .u64 (IntKind.u64.wrap (bits .andNot .u64 w0 36169536663224448 + 5063812098665367110)) w0) 36169536663224448 == 0) = true)
    (hC : (bits .and .u64 w0 1095216660480 != 193273528320) = true) :
    Calls Try.prog 24 #[.int .u64 w0] w (MonthSaid X w) := by
  go_enter Try.func24, Try.ntmps24
  go_wp2
  go_ret2
  exact month_no hno

set_option maxHeartbeats 400000 in
theorem word_d (w0 : Int) (w : World) (d x0 x1 x2 x3 x5 x6 : Int)
    (hA : (bits .and .u64 (IntKind.u64.wrap (bits .or .u64 w0 36169536663224448 - 13563576248709168)) 36169536663224448 == 36169536663224448) = true)
    (hB : (bits .and .u64 (bits .or .u64 (IntKind.u64.wrap (bits .andNot .u64 w0 36169536663224448 + 5063812098665367110)) w0) 36169536663224448 == 0) = true)
    (hC : (bits .and .u64 w0 1095216660480 != 193273528320) = false)
    (hd : IntKind.u64.wrap (w0 - 13563576248709168) = d)
    (e0 : bits .and .u64 d 255 = x0) (e1 : bits .and .u64 (d / 256) 255 = x1) (e2 : bits .and .u64 (d / 65536) 255 = x2) (e3 : bits .and .u64 (d / 16777216) 255 = x3)
    (e5 : bits .and .u64 (d / 1099511627776) 255 = x5) (e6 : bits .and .u64 (d / 281474976710656) 255 = x6)
    (a0 : 0 ≤ x0) (c0 : x0 ≤ 9) (a1 : 0 ≤ x1) (c1 : x1 ≤ 9) (a2 : 0 ≤ x2) (c2 : x2 ≤ 9) (a3 : 0 ≤ x3) (c3 : x3 ≤ 9) (a5 : 0 ≤ x5) (c5 : x5 ≤ 9) (a6 : 0 ≤ x6) (c6 : x6 ≤ 9)
    (t1 : 1 ≤ x5 * 10 + x6) (t2 : x5 * 10 + x6 ≤ 12) :
    Calls Try.prog 24 #[.int .u64 w0] w fun e w' => e = .returned (.tuple #[.int .i64 ((x0 * 1000 + x1 * 100 + x2 * 10 + x3) * 12 + (x5 * 10 + x6) - 1), .bool true]) ∧ w = w' := by
  go_enter Try.func24, Try.ntmps24
  go_wp2
  go_ret2
  exact ⟨rfl, rfl⟩

set_option maxHeartbeats 400000 in
theorem word_e (w0 : Int) (X : Nat → Int) (w : World) (hno : ¬ OkM X) (d x0 x1 x2 x3 x5 x6 : Int)
    (hA : (bits .and .u64 (IntKind.u64.wrap (bits .or .u64 w0 36169536663224448 - 13563576248709168)) 36169536663224448 == 36169536663224448) = true)
    (hB : (bits .and .u64 (bits .or .u64 (IntKind.u64.wrap (bits .andNot .u64 w0 36169536663224448 + 5063812098665367110)) w0) 36169536663224448 == 0) = true)
    (hC : (bits .and .u64 w0 1095216660480 != 193273528320) = false)
    (hd : IntKind.u64.wrap (w0 - 13563576248709168) = d)
    (e0 : bits .and .u64 d 255 = x0) (e1 : bits .and .u64 (d / 256) 255 = x1) (e2 : bits .and .u64 (d / 65536) 255 = x2) (e3 : bits .and .u64 (d / 16777216) 255 = x3)
    (e5 : bits .and .u64 (d / 1099511627776) 255 = x5) (e6 : bits .and .u64 (d / 281474976710656) 255 = x6)
    (a0 : 0 ≤ x0) (c0 : x0 ≤ 9) (a1 : 0 ≤ x1) (c1 : x1 ≤ 9) (a2 : 0 ≤ x2) (c2 : x2 ≤ 9) (a3 : 0 ≤ x3) (c3 : x3 ≤ 9) (a5 : 0 ≤ x5) (c5 : x5 ≤ 9) (a6 : 0 ≤ x6) (c6 : x6 ≤ 9)
    (t : x5 * 10 + x6 < 1 ∨ 12 < x5 * 10 + x6) :
    Calls Try.prog 24 #[.int .u64 w0] w (MonthSaid X w) := by
  rcases t with t | t
  all_goals
    go_enter Try.func24, Try.ntmps24
    go_wp2
    go_ret2
    exact month_no hno

theorem digits_ok {b0 b1 b2 b3 b4 b5 b6 : Nat} : Digits b0 b1 b2 b3 b4 b5 b6 ↔ ∀ k, k < 7 → okM (byt b0 b1 b2 b3 b4 b5 b6) k := by
  constructor
  · intro d k hk
    unfold Digits at d
    unfold okM
    rcases (show k = 0 ∨ k = 1 ∨ k = 2 ∨ k = 3 ∨ k = 4 ∨ k = 5 ∨ k = 6 by omega) with rfl | rfl | rfl | rfl | rfl | rfl | rfl <;> simp only [byt] <;> omega
  · intro h
    have g0 := (h 0 (by omega)).2 (by omega)
    have g1 := (h 1 (by omega)).2 (by omega)
    have g2 := (h 2 (by omega)).2 (by omega)
    have g3 := (h 3 (by omega)).2 (by omega)
    have g4 := (h 4 (by omega)).1 rfl
    have g5 := (h 5 (by omega)).2 (by omega)
    have g6 := (h 6 (by omega)).2 (by omega)
    simp only [byt] at g0 g1 g2 g3 g4 g5 g6
    unfold Digits
    omega

theorem byte_at1 (n : Nat) (h : n < 18446744073709551616) : bits .and .u64 ((n : Int) / 256) 255 = ((n / 256 % 256 : Nat) : Int) := byte_at n 256 h
theorem byte_at2 (n : Nat) (h : n < 18446744073709551616) : bits .and .u64 ((n : Int) / 65536) 255 = ((n / 65536 % 256 : Nat) : Int) := byte_at n 65536 h
theorem byte_at3 (n : Nat) (h : n < 18446744073709551616) : bits .and .u64 ((n : Int) / 16777216) 255 = ((n / 16777216 % 256 : Nat) : Int) := byte_at n 16777216 h
theorem byte_at5 (n : Nat) (h : n < 18446744073709551616) : bits .and .u64 ((n : Int) / 1099511627776) 255 = ((n / 1099511627776 % 256 : Nat) : Int) := byte_at n 1099511627776 h
theorem byte_at6 (n : Nat) (h : n < 18446744073709551616) : bits .and .u64 ((n : Int) / 281474976710656) 255 = ((n / 281474976710656 % 256 : Nat) : Int) := byte_at n 281474976710656 h

theorem val_eq {b0 b1 b2 b3 b4 b5 b6 : Nat} (d : Digits b0 b1 b2 b3 b4 b5 b6) :
    ((((b0 - 48 : Nat) : Int) * 1000 + ((b1 - 48 : Nat) : Int) * 100 + ((b2 - 48 : Nat) : Int) * 10 + ((b3 - 48 : Nat) : Int)) * 12 + (((b5 - 48 : Nat) : Int) * 10 + ((b6 - 48 : Nat) : Int)) - 1) = valM (byt b0 b1 b2 b3 b4 b5 b6) := by
  unfold Digits at d
  unfold valM numM
  simp only [yearM, byt]
  omega

theorem num_eq {b0 b1 b2 b3 b4 b5 b6 : Nat} (d : Digits b0 b1 b2 b3 b4 b5 b6) : numM (byt b0 b1 b2 b3 b4 b5 b6) = ((b5 - 48 : Nat) : Int) * 10 + ((b6 - 48 : Nat) : Int) := by
  unfold Digits at d
  unfold numM
  simp only [byt]
  omega

/-- monthOfWord reads the word as its bytes say. -/
theorem word_any {b0 b1 b2 b3 b4 b5 b6 b7 : Nat} (h0 : b0 < 256) (h1 : b1 < 256) (h2 : b2 < 256) (h3 : b3 < 256) (h4 : b4 < 256) (h5 : b5 < 256) (h6 : b6 < 256) (h7 : b7 < 256) (w : World) :
    Calls Try.prog 24 #[.int .u64 ((cat8 b0 b1 b2 b3 b4 b5 b6 b7 : Nat) : Int)] w (MonthSaid (byt b0 b1 b2 b3 b4 b5 b6) w) := by
  have ht := tests h0 h1 h2 h3 h4 h5 h6 h7
  by_cases d : Digits b0 b1 b2 b3 b4 b5 b6
  · obtain ⟨tA, tB, tC⟩ := ht.2 d
    have d' := d
    unfold Digits at d'
    have ed := sub_k2 (a0 := b0) (a1 := b1) (a2 := b2) (a3 := b3) (a4 := b4) (a5 := b5) (a6 := b6) (a7 := b7) (by omega) (by omega) (by omega) (by omega) (by omega) (by omega)
    have q0 : b0 - 48 < 256 := by omega
    have q1 : b1 - 48 < 256 := by omega
    have q2 : b2 - 48 < 256 := by omega
    have q3 : b3 - 48 < 256 := by omega
    have q5 : b5 - 48 < 256 := by omega
    have q6 : b6 - 48 < 256 := by omega
    have hl := cat8_lt q0 q1 q2 q3 h4 q5 q6 h7
    have hd : IntKind.u64.wrap (((cat8 b0 b1 b2 b3 b4 b5 b6 b7 : Nat) : Int) - 13563576248709168) = ((cat8 (b0 - 48) (b1 - 48) (b2 - 48) (b3 - 48) b4 (b5 - 48) (b6 - 48) b7 : Nat) : Int) := by
      rw [ed, wrap_id _ hl]
    have e0 := and255 _ hl
    have e1 := byte_at1 _ hl
    have e2 := byte_at2 _ hl
    have e3 := byte_at3 _ hl
    have e5 := byte_at5 _ hl
    have e6 := byte_at6 _ hl
    rw [cat8_0 q0] at e0
    rw [cat8_1 q0 q1] at e1
    rw [cat8_2 q0 q1 q2] at e2
    rw [cat8_3 q0 q1 q2 q3] at e3
    rw [cat8_5 q0 q1 q2 q3 h4 q5] at e5
    rw [cat8_6 q0 q1 q2 q3 h4 q5 q6] at e6
    have en := num_eq d
    by_cases hn : 1 ≤ ((b5 - 48 : Nat) : Int) * 10 + ((b6 - 48 : Nat) : Int) ∧ ((b5 - 48 : Nat) : Int) * 10 + ((b6 - 48 : Nat) : Int) ≤ 12
    · have hyes : OkM (byt b0 b1 b2 b3 b4 b5 b6) := ⟨digits_ok.1 d, by rw [en]; exact hn⟩
      refine (word_d _ w _ _ _ _ _ _ _ (beq_iff_eq.2 tA) (beq_iff_eq.2 tB) (by rw [tC]; rfl) hd e0 e1 e2 e3 e5 e6 (by omega) (by omega) (by omega) (by omega) (by omega) (by omega) (by omega) (by omega) (by omega) (by omega) (by omega) (by omega) hn.1 hn.2).mono ?_
      rintro e w' ⟨rfl, rfl⟩
      exact month_yes hyes (val_eq d)
    · have hno : ¬ OkM (byt b0 b1 b2 b3 b4 b5 b6) := fun h => hn (by have := h.2; rw [en] at this; exact this)
      exact word_e _ _ w hno _ _ _ _ _ _ _ (beq_iff_eq.2 tA) (beq_iff_eq.2 tB) (by rw [tC]; rfl) hd e0 e1 e2 e3 e5 e6 (by omega) (by omega) (by omega) (by omega) (by omega) (by omega) (by omega) (by omega) (by omega) (by omega) (by omega) (by omega) (by omega)
  · have hno : ¬ OkM (byt b0 b1 b2 b3 b4 b5 b6) := fun h => d (digits_ok.2 h.1)
    cases tA : (bits .and .u64 (IntKind.u64.wrap (bits .or .u64 ((cat8 b0 b1 b2 b3 b4 b5 b6 b7 : Nat) : Int) 36169536663224448 - 13563576248709168)) 36169536663224448 == 36169536663224448) with
    | false => exact word_a _ _ w hno tA
    | true =>
      cases tB : (bits .and .u64 (bits .or .u64 (IntKind.u64.wrap (bits .andNot .u64 ((cat8 b0 b1 b2 b3 b4 b5 b6 b7 : Nat) : Int) 36169536663224448 + 5063812098665367110)) ((cat8 b0 b1 b2 b3 b4 b5 b6 b7 : Nat) : Int)) 36169536663224448 == 0) with
      | false => exact word_b _ _ w hno tA tB
      | true =>
        cases tC : (bits .and .u64 ((cat8 b0 b1 b2 b3 b4 b5 b6 b7 : Nat) : Int) 1095216660480 != 193273528320) with
        | true => exact word_c _ _ w hno tA tB tC
        | false => exact absurd (ht.1 ⟨beq_iff_eq.1 tA, beq_iff_eq.1 tB, by simpa using tC⟩) d

end Go.Proofs.Qxb6000488a
