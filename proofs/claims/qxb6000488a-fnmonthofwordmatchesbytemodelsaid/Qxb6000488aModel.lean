import Derived.Test.Qxb6000488aChecked
import Derived.Test.Qxb6000488aBytes
import Derived.WalkSpells
import Derived.WalkLawsBesides
import Derived.Deep.LoopGhost
import Derived.KernelRfl
namespace Go.Proofs.Qxb6000488a
open Go.RowKit

theorem wrap64_id (x : Int) (h0 : 0 ≤ x) (h1 : x ≤ 255) : wrap64 x = x := by
  unfold wrap64
  omega

theorem ret_int {a b : Int} (h : a = b) : Ending.returned (.int .i64 a) = .returned (.int .i64 b) := by rw [h]

theorem byteOf_any (w0 i x : Int) (hi0 : 0 ≤ i) (hi1 : i < 7) (hx : bits .and .u64 (w0 / 2 ^ (8 * i).toNat) 255 = x) (hx0 : 0 ≤ x) (hx1 : x ≤ 255) (w : World) :
    Calls Try.prog 25 #[.int .u64 w0, .int .u64 i] w fun e w' => e = .returned (.int .i64 x) ∧ w = w' := by
  have HX : Hid (wrap64 (bits .and .u64 (w0 / 2 ^ (8 * i).toNat) 255) = x) := by
    show wrap64 (bits .and .u64 (w0 / 2 ^ (8 * i).toNat) 255) = x
    rw [hx, wrap64_id _ hx0 hx1]
  clear hx
  go_enter Try.func25, Try.ntmps25
  go_wp2
  go_ret
  exact ⟨ret_int HX.out, rfl⟩

/-- The place k of the word is as YYYY-MM wants it. -/
def okM (X : Nat → Int) (k : Nat) : Prop := (k = 4 → X k = 45) ∧ (k ≠ 4 → 48 ≤ X k ∧ X k ≤ 57)

/-- The month's number. -/
def numM (X : Nat → Int) : Int := (X 5 - 48) * 10 + X 6 - 48

/-- The word holds a month. -/
def OkM (X : Nat → Int) : Prop := (∀ k, k < 7 → okM X k) ∧ 1 ≤ numM X ∧ numM X ≤ 12

/-- The year out of the first k digits. -/
def yearM (X : Nat → Int) : Nat → Int
  | 0 => 0
  | k + 1 => yearM X k * 10 + X k - 48

def valM (X : Nat → Int) : Int := yearM X 4 * 12 + numM X - 1

/-- How a reader of the word ends. -/
def MonthSaid (X : Nat → Int) (w : World) (e : Ending) (w' : World) : Prop :=
  ∃ (m : Int) (b : Bool), e = .returned (.tuple #[.int .i64 m, .bool b]) ∧ w = w' ∧ ((b = true ∧ OkM X ∧ m = valM X) ∨ (b = false ∧ ¬ OkM X ∧ m = 0))

theorem month_no {X : Nat → Int} {w : World} (h : ¬ OkM X) : MonthSaid X w (.returned (.tuple #[.int .i64 0, .bool false])) w := ⟨0, false, rfl, rfl, Or.inr ⟨rfl, h, rfl⟩⟩
theorem month_yes {X : Nat → Int} {w : World} {m : Int} (h : OkM X) (hm : m = valM X) : MonthSaid X w (.returned (.tuple #[.int .i64 m, .bool true])) w := ⟨m, true, rfl, rfl, Or.inl ⟨rfl, h, hm⟩⟩

theorem year_bd {X : Nat → Int} (h : ∀ k, k < 4 → 48 ≤ X k ∧ X k ≤ 57) (k : Nat) (hk : k ≤ 4) : 0 ≤ yearM X k ∧ yearM X k ≤ 9999 := by
  have h0 := h 0 (by omega)
  have h1 := h 1 (by omega)
  have h2 := h 2 (by omega)
  have h3 := h 3 (by omega)
  rcases (show k = 0 ∨ k = 1 ∨ k = 2 ∨ k = 3 ∨ k = 4 by omega) with rfl | rfl | rfl | rfl | rfl <;> simp only [yearM] <;> omega

theorem byteOf_at5 {w0 : Int} {X : Nat → Int} (h : ∀ (k : Nat) (wx : World), k < 7 → Calls Try.prog 25 #[.int .u64 w0, .int .u64 (k : Int)] wx fun e w' => e = .returned (.int .i64 (X k)) ∧ wx = w') (w : World) :
    Calls Try.prog 25 #[.int .u64 w0, .int .u64 5] w fun e w' => e = .returned (.int .i64 (X 5)) ∧ w = w' := h 5 w (by omega)
theorem byteOf_at6 {w0 : Int} {X : Nat → Int} (h : ∀ (k : Nat) (wx : World), k < 7 → Calls Try.prog 25 #[.int .u64 w0, .int .u64 (k : Int)] wx fun e w' => e = .returned (.int .i64 (X k)) ∧ wx = w') (w : World) :
    Calls Try.prog 25 #[.int .u64 w0, .int .u64 6] w fun e w' => e = .returned (.int .i64 (X 6)) ∧ w = w' := h 6 w (by omega)

set_option maxHeartbeats 400000 in
theorem model_any (w0 : Int) (X : Nat → Int) (hX : ∀ k : Nat, k < 7 → bits .and .u64 (w0 / 2 ^ (8 * (k : Int)).toNat) 255 = X k) (hb : ∀ k, 0 ≤ X k ∧ X k ≤ 255) (w : World) :
    Calls Try.prog 11 #[.int .u64 w0] w (MonthSaid X w) := by
  have hcall : ∀ (k : Nat) (wx : World), k < 7 → Calls Try.prog 25 #[.int .u64 w0, .int .u64 (k : Int)] wx fun e w' => e = .returned (.int .i64 (X k)) ∧ wx = w' := fun k wx hk =>
    byteOf_any w0 k (X k) (by omega) (by omega) (hX k hk) (hb k).1 (hb k).2 wx
  have HC : Hid (∀ (k : Nat) (wx : World), k < 7 → Calls Try.prog 25 #[.int .u64 w0, .int .u64 (k : Int)] wx fun e w' => e = .returned (.int .i64 (X k)) ∧ wx = w') := hcall
  clear hcall hX
  go_enter Try.func11, Try.ntmps11
  go_wp2
  go_loopg [4] 7 (fun q i wr => wr = w ∧ ∃ k : Nat, k ≤ 7 ∧ q = 7 - k ∧ i = .int .u64 k ∧ ∀ j, j < k → okM X j)
  case atStart => exact ⟨rfl, 0, Nat.zero_le _, rfl, rfl, fun j hj => absurd hj (Nat.not_lt_zero _)⟩
  case round =>
    obtain ⟨rfl, k, hk, rfl, rfl, hok⟩ := hrel
    have HO : Hid (∀ j, j < k → okM X j) := hok
    clear hok
    by_cases hlt : k < 7
    · have hkz : (k : Int) < 7 := by omega
      have hc := HC.out k wr hlt
      have hbk := hb k
      obtain ⟨x, hx⟩ : ∃ x, X k = x := ⟨_, rfl⟩
      rw [hx] at hc hbk
      have HX : Hid (X k = x) := hx
      clear hx hb
      by_cases h4 : k = 4
      · by_cases h45 : x = 45
        · have hnext : Hid (∀ j, j < k + 1 → okM X j) := by
            intro j hj
            by_cases e : j = k
            · subst e; exact ⟨fun _ => by rw [HX.out, h45], fun h => absurd h4 h⟩
            · exact HO.out j (by omega)
          subst h45
          subst h4
          go_wp2_with (go_at_call 25; refine hc.mono ?_; rintro e w' ⟨rfl, rfl⟩)
          go_roundg 2
          case measure => decide
          case rel => exact ⟨rfl, 5, by omega, rfl, by go_num, hnext.out⟩
        · have hno : ¬ OkM X := fun h => h45 (by have := (h.1 k hlt).1 h4; rw [HX.out] at this; exact this)
          have h45b : (x != 45) = true := by simpa using h45
          subst h4
          clear h45
          go_wp2_with (go_at_call 25; refine hc.mono ?_; rintro e w' ⟨rfl, rfl⟩)
          go_ret2
          exact month_no hno
      · have h4b : ((k : Int) == 4) = false := by simp; omega
        rcases (show x < 48 ∨ 57 < x ∨ (48 ≤ x ∧ x ≤ 57) by omega) with h1 | h1 | h1
        · have hno : ¬ OkM X := fun h => by have := (h.1 k hlt).2 h4; rw [HX.out] at this; omega
          clear h4
          go_wp2_with (go_at_call 25; refine hc.mono ?_; rintro e w' ⟨rfl, rfl⟩)
          go_ret2
          exact month_no hno
        · have hno : ¬ OkM X := fun h => by have := (h.1 k hlt).2 h4; rw [HX.out] at this; omega
          clear h4
          go_wp2_with (go_at_call 25; refine hc.mono ?_; rintro e w' ⟨rfl, rfl⟩)
          go_ret2
          exact month_no hno
        · have hnext : Hid (∀ j, j < k + 1 → okM X j) := by
            intro j hj
            by_cases e : j = k
            · subst e; exact ⟨fun h => absurd h h4, fun _ => by rw [HX.out]; exact h1⟩
            · exact HO.out j (by omega)
          obtain ⟨h1, h2⟩ := h1
          clear h4
          go_wp2_with (go_at_call 25; refine hc.mono ?_; rintro e w' ⟨rfl, rfl⟩)
          go_roundg (7 - (k + 1))
          case measure => omega
          case rel => exact ⟨rfl, k + 1, by omega, rfl, by go_num, hnext.out⟩
    · obtain rfl : k = 7 := by omega
      have hd : ∀ k, k < 4 → 48 ≤ X k ∧ X k ≤ 57 := fun k hk => (HO.out k (by omega)).2 (by omega)
      have HD : Hid (∀ k, k < 4 → 48 ≤ X k ∧ X k ≤ 57) := hd
      clear hd
      go_wp2
      go_loopg [6, 7] 4 (fun q y i wx => wx = wr ∧ ∃ k : Nat, k ≤ 4 ∧ q = 4 - k ∧ i = .int .u64 k ∧ y = .int .i64 (yearM X k))
      case atStart => exact ⟨rfl, 0, Nat.zero_le _, rfl, rfl, rfl⟩
      case round =>
        obtain ⟨rfl, k, hk, rfl, rfl, rfl⟩ := hrel
        have hy := year_bd HD.out k hk
        by_cases hlt : k < 4
        · have hkz : (k : Int) < 4 := by omega
          have hc := HC.out k wr (by omega)
          have hbk := HD.out k hlt
          have HY : Hid (yearM X (k + 1) = yearM X k * 10 + X k - 48) := rfl
          obtain ⟨x, hx⟩ : ∃ x, X k = x := ⟨_, rfl⟩
          obtain ⟨y, hyy⟩ : ∃ y, yearM X k = y := ⟨_, rfl⟩
          rw [hx] at hc hbk
          rw [hyy] at hy
          have HE : Hid (yearM X (k + 1) = y * 10 + x - 48) := by
            show yearM X (k + 1) = y * 10 + x - 48
            rw [HY.out, hx, hyy]
          clear HY hx
          obtain ⟨x0, x1⟩ := hbk
          obtain ⟨y0, y1⟩ := hy
          clear hb
          go_wp2_with (go_at_call 25; refine hc.mono ?_; rintro e w' ⟨rfl, rfl⟩)
          go_roundg (4 - (k + 1))
          case measure => omega
          case rel => exact ⟨rfl, k + 1, by omega, rfl, by go_num, by rw [HE.out]⟩
        · obtain rfl : k = 4 := by omega
          have h5 := byteOf_at5 HC.out wr
          have h6 := byteOf_at6 HC.out wr
          have b5 := (HO.out 5 (by omega)).2 (by omega)
          have b6 := (HO.out 6 (by omega)).2 (by omega)
          have HN : Hid (numM X = (X 5 - 48) * 10 + X 6 - 48) := rfl
          have HV : Hid (valM X = yearM X 4 * 12 + numM X - 1) := rfl
          obtain ⟨x5, e5⟩ : ∃ x, X 5 = x := ⟨_, rfl⟩
          obtain ⟨x6, e6⟩ : ∃ x, X 6 = x := ⟨_, rfl⟩
          obtain ⟨y, ey⟩ : ∃ y, yearM X 4 = y := ⟨_, rfl⟩
          rw [e5] at h5 b5
          rw [e6] at h6 b6
          rw [ey] at hy
          have HN' : Hid (numM X = (x5 - 48) * 10 + x6 - 48) := by
            show numM X = (x5 - 48) * 10 + x6 - 48
            rw [HN.out, e5, e6]
          have HV' : Hid (valM X = y * 12 + ((x5 - 48) * 10 + x6 - 48) - 1) := by
            show valM X = y * 12 + ((x5 - 48) * 10 + x6 - 48) - 1
            rw [HV.out, ey, HN'.out]
          clear HN HV e5 e6 hb
          obtain ⟨x50, x51⟩ := b5
          obtain ⟨x60, x61⟩ := b6
          obtain ⟨y0, y1⟩ := hy
          rcases (show (x5 - 48) * 10 + x6 - 48 < 1 ∨ 12 < (x5 - 48) * 10 + x6 - 48 ∨ (1 ≤ (x5 - 48) * 10 + x6 - 48 ∧ (x5 - 48) * 10 + x6 - 48 ≤ 12) by omega) with t | t | ⟨t1, t2⟩
          · have hno : ¬ OkM X := fun h => by have := h.2; rw [HN'.out] at this; omega
            go_wp2_with fail
            refine h5.mono ?_
            rintro e w' ⟨rfl, rfl⟩
            clear h5
            go_wp2_with fail
            refine h6.mono ?_
            rintro e w' ⟨rfl, rfl⟩
            clear h6
            go_wp2
            go_ret2
            exact month_no hno
          · have hno : ¬ OkM X := fun h => by have := h.2; rw [HN'.out] at this; omega
            go_wp2_with fail
            refine h5.mono ?_
            rintro e w' ⟨rfl, rfl⟩
            clear h5
            go_wp2_with fail
            refine h6.mono ?_
            rintro e w' ⟨rfl, rfl⟩
            clear h6
            go_wp2
            go_ret2
            exact month_no hno
          · have hyes : OkM X := ⟨HO.out, by rw [HN'.out]; exact ⟨t1, t2⟩⟩
            go_wp2_with fail
            refine h5.mono ?_
            rintro e w' ⟨rfl, rfl⟩
            clear h5
            go_wp2_with fail
            refine h6.mono ?_
            rintro e w' ⟨rfl, rfl⟩
            clear h6
            go_wp2
            go_ret2
            exact month_yes hyes (by rw [HV'.out])

end Go.Proofs.Qxb6000488a
