import Derived.Test.Qxb6000488aWord
namespace Go.Proofs.Qxb6000488a
open Go.RowKit

theorem zzWord_any {w0 : Int} {X : Nat → Int} {w : World} (h : Calls Try.prog 24 #[.int .u64 w0] w (MonthSaid X w)) : Calls Try.prog 10 #[.int .u64 w0] w (MonthSaid X w) := by
  go_enter Try.func10, Try.ntmps10
  go_wp2_with (go_at_call 24; refine h.mono ?_; rintro e w' ⟨m, b, rfl, rfl, hm⟩)
  go_ret2
  exact ⟨m, b, rfl, rfl, hm⟩

theorem ret_yes {a : Bool} (h : a = true) : Ending.returned (.bool a) = .returned (.bool true) := by rw [h]

theorem law_bytes {w0 : Int} {X : Nat → Int} {w : World} (h10 : Calls Try.prog 10 #[.int .u64 w0] w (MonthSaid X w)) (h11 : Calls Try.prog 11 #[.int .u64 w0] w (MonthSaid X w)) :
    Calls Try.prog 3 #[.int .u64 w0] w fun e w' => e = .returned (.bool true) ∧ w = w' := by
  by_cases ok : OkM X
  · have g10 : Calls Try.prog 10 #[.int .u64 w0] w fun e w' => e = .returned (.tuple #[.int .i64 (valM X), .bool true]) ∧ w = w' := by
      refine h10.mono ?_
      rintro e w' ⟨m, b, rfl, rfl, ⟨rfl, _, rfl⟩ | ⟨_, h, _⟩⟩
      · exact ⟨rfl, rfl⟩
      · exact absurd ok h
    have g11 : Calls Try.prog 11 #[.int .u64 w0] w fun e w' => e = .returned (.tuple #[.int .i64 (valM X), .bool true]) ∧ w = w' := by
      refine h11.mono ?_
      rintro e w' ⟨m, b, rfl, rfl, ⟨rfl, _, rfl⟩ | ⟨_, h, _⟩⟩
      · exact ⟨rfl, rfl⟩
      · exact absurd ok h
    clear h10 h11 ok
    obtain ⟨v, hv⟩ : ∃ v, v = valM X := ⟨_, rfl⟩
    rw [← hv] at g10 g11
    clear hv
    go_enter Try.func3, Try.ntmps3
    go_wp2_with (first | (go_at_call 10; refine g10.mono ?_; rintro e w' ⟨rfl, rfl⟩) | (go_at_call 11; refine g11.mono ?_; rintro e w' ⟨rfl, rfl⟩))
    go_ret
    exact ⟨ret_yes (by simp), rfl⟩
  · have g10 : Calls Try.prog 10 #[.int .u64 w0] w fun e w' => e = .returned (.tuple #[.int .i64 0, .bool false]) ∧ w = w' := by
      refine h10.mono ?_
      rintro e w' ⟨m, b, rfl, rfl, ⟨_, h, _⟩ | ⟨rfl, _, rfl⟩⟩
      · exact absurd h ok
      · exact ⟨rfl, rfl⟩
    have g11 : Calls Try.prog 11 #[.int .u64 w0] w fun e w' => e = .returned (.tuple #[.int .i64 0, .bool false]) ∧ w = w' := by
      refine h11.mono ?_
      rintro e w' ⟨m, b, rfl, rfl, ⟨_, h, _⟩ | ⟨rfl, _, rfl⟩⟩
      · exact absurd h ok
      · exact ⟨rfl, rfl⟩
    clear h10 h11 ok
    go_enter Try.func3, Try.ntmps3
    go_wp2_with (first | (go_at_call 10; refine g10.mono ?_; rintro e w' ⟨rfl, rfl⟩) | (go_at_call 11; refine g11.mono ?_; rintro e w' ⟨rfl, rfl⟩))
    go_ret
    exact ⟨ret_yes (by simp), rfl⟩

theorem law_walk (a0 : Int) (h0 : 0 ≤ a0) (h1 : a0 < 18446744073709551616) (w : World) : Calls Try.prog 3 #[.int .u64 a0] w fun e w' => e = .returned (.bool true) ∧ w = w' := by
  obtain ⟨n, rfl⟩ : ∃ n : Nat, a0 = (n : Int) := ⟨a0.toNat, by omega⟩
  obtain ⟨b0, b1, b2, b3, b4, b5, b6, b7, k0, k1, k2, k3, k4, k5, k6, k7, rfl⟩ := word_bytes n (by omega)
  exact law_bytes (zzWord_any (word_any k0 k1 k2 k3 k4 k5 k6 k7 w)) (model_any _ _ (fun k hk => byte_byt k0 k1 k2 k3 k4 k5 k6 k7 k hk) (fun k => byt_bd k0 k1 k2 k3 k4 k5 k6 k) w)

end Go.Proofs.Qxb6000488a
