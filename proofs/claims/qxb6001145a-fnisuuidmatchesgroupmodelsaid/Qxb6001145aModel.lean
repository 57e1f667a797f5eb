import Derived.Test.Qxb6001145aChecked
import Derived.Test.Qxb6001145aPlain
import Derived.WalkSpells
import Derived.WalkLawsBesides
import Derived.Deep.OwnRows
import Derived.Deep.LoopGhost
import Derived.KernelRfl
namespace Go.Proofs.Qxb6001145a
open Go.RowKit Go.Deep

/-- The byte at k. -/
def byteAt (s : ByteArray) (k : Nat) : Int := if h : k < s.size then ((s[k]'h).toNat : Int) else 0

theorem byteAt_lt (s : ByteArray) (k : Nat) (h : k < s.size) : byteAt s k = ((s[k]'h).toNat : Int) := by simp [byteAt, h]

theorem ret_yes {a : Bool} (h : a = true) : Ending.returned (.bool a) = .returned (.bool true) := by rw [h]
theorem ret_no {a : Bool} (h : a = false) : Ending.returned (.bool a) = .returned (.bool false) := by rw [h]

/-- isHexByte. -/
theorem hex_yes (c : Int) (w : World) (h : hexI c = true) : Calls Try.prog 12 #[.int .u8 c] w fun e w' => e = .returned (.bool true) ∧ w = w' := by
  rw [hexI_iff] at h
  rcases h with ⟨h1, h2⟩ | ⟨h1, h2⟩ | ⟨h1, h2⟩
  all_goals
    go_enter Try.func12, Try.ntmps12
    go_wp2
    go_ret
    exact ⟨ret_yes (by simp; try omega), rfl⟩

theorem hex_no (c : Int) (w : World) (h : hexI c = false) : Calls Try.prog 12 #[.int .u8 c] w fun e w' => e = .returned (.bool false) ∧ w = w' := by
  rw [hexI_no] at h
  rcases (show c < 48 ∨ (57 < c ∧ c < 65) ∨ (70 < c ∧ c < 97) ∨ 102 < c by omega) with h1 | ⟨h1, h2⟩ | ⟨h1, h2⟩ | h1
  all_goals
    clear h
    go_enter Try.func12, Try.ntmps12
    go_wp2
    go_ret
    exact ⟨ret_no (by simp; try omega), rfl⟩

/-- How a judge of a text ends: a bool that says whether it is a UUID's; of what was there nothing has turned. -/
def JudgeSaid (w : World) (s : ByteArray) (e : Ending) (w' : World) : Prop := ∃ b : Bool, e = .returned (.bool b) ∧ (b = true ↔ Uuid s.size (byteAt s)) ∧ w.Since w.heap.size w'

theorem judge_no {w w' : World} {s : ByteArray} (h : ¬ Uuid s.size (byteAt s)) (hs : w.Since w.heap.size w') : JudgeSaid w s (.returned (.bool false)) w' := ⟨false, rfl, ⟨(fun e => by cases e), fun u => absurd u h⟩, hs⟩
theorem judge_iff {w w' : World} {s : ByteArray} {b : Bool} (h : b = true ↔ Uuid s.size (byteAt s)) (hs : w.Since w.heap.size w') : JudgeSaid w s (.returned (.bool b)) w' := ⟨b, rfl, h, hs⟩

set_option maxHeartbeats 1600000 in
theorem model_any (s : ByteArray) (hs : s.size ≤ 1048576) (w : World) : Calls Try.prog 8 #[.string s] w (JudgeSaid w s) := by
  go_enter Try.func8, Try.ntmps8
  go_wp2
  go_loopg [3, 4, 5] s.size (fun q a b i wr => wr = w ∧ ∃ k g r : Nat, k ≤ s.size ∧ q = s.size - k ∧ a = .int .i64 g ∧ b = .int .i64 r ∧ i = .int .i64 k ∧ Read (byteAt s) k g r)
  case atStart => exact ⟨rfl, 0, 0, 0, Nat.zero_le _, rfl, rfl, rfl, rfl, Read.start _⟩
  case round =>
    obtain ⟨rfl, k, g, r, hk, rfl, rfl, rfl, rfl, hR⟩ := hrel
    by_cases hlt : k < s.size
    · have hkz : (k : Int) < (s.size : Int) := by omega
      obtain ⟨c, hc⟩ : ∃ c : Nat, (s[k]'hlt).toNat = c := ⟨_, rfl⟩
      have HB : Hid (byteAt s k = (c : Int)) := by
        show byteAt s k = (c : Int)
        rw [byteAt_lt s k hlt, hc]
      have hg4 := hR.g4
      have hr12 := hR.r12
      by_cases h45 : c = 45
      · subst h45
        rcases g_cases hg4 with rfl | rfl | rfl | rfl | rfl
        · by_cases h8 : r = 8
          · subst h8
            go_wp2
            go_roundg (s.size - (k + 1))
            case measure => omega
            case rel => exact ⟨rfl, k + 1, 1, 0, by omega, rfl, by go_num, by go_num, by go_num, hR.hyphen HB.out (by omega) rfl⟩
          · have h8b : ((r : Int) != 8) = true := by simp; omega
            have hno := hR.badHyphen hlt HB.out (Or.inr h8)
            go_wp2
            go_ret
            exact judge_no hno (World.Since.refl _ _)
        · by_cases h8 : r = 4
          · subst h8
            go_wp2
            go_roundg (s.size - (k + 1))
            case measure => omega
            case rel => exact ⟨rfl, k + 1, 2, 0, by omega, rfl, by go_num, by go_num, by go_num, hR.hyphen HB.out (by omega) rfl⟩
          · have h8b : ((r : Int) != 4) = true := by simp; omega
            have hno := hR.badHyphen hlt HB.out (Or.inr h8)
            go_wp2
            go_ret
            exact judge_no hno (World.Since.refl _ _)
        · by_cases h8 : r = 4
          · subst h8
            go_wp2
            go_roundg (s.size - (k + 1))
            case measure => omega
            case rel => exact ⟨rfl, k + 1, 3, 0, by omega, rfl, by go_num, by go_num, by go_num, hR.hyphen HB.out (by omega) rfl⟩
          · have h8b : ((r : Int) != 4) = true := by simp; omega
            have hno := hR.badHyphen hlt HB.out (Or.inr h8)
            go_wp2
            go_ret
            exact judge_no hno (World.Since.refl _ _)
        · by_cases h8 : r = 4
          · subst h8
            go_wp2
            go_roundg (s.size - (k + 1))
            case measure => omega
            case rel => exact ⟨rfl, k + 1, 4, 0, by omega, rfl, by go_num, by go_num, by go_num, hR.hyphen HB.out (by omega) rfl⟩
          · have h8b : ((r : Int) != 4) = true := by simp; omega
            have hno := hR.badHyphen hlt HB.out (Or.inr h8)
            go_wp2
            go_ret
            exact judge_no hno (World.Since.refl _ _)
        · have hno := hR.badHyphen hlt HB.out (Or.inl (by omega))
          go_wp2
          go_ret
          exact judge_no hno (World.Since.refl _ _)
      · have h45b : ((c : Int) == 45) = false := by simp; omega
        have hf45 : byteAt s k ≠ 45 := by rw [HB.out]; omega
        have HF : Hid (byteAt s k ≠ 45) := hf45
        clear hf45 h45
        cases hx : hexI (c : Int) with
        | false =>
          have hno := hR.badByte hlt HF.out (by rw [HB.out]; exact hx)
          have hcall := hex_no (c : Int) wr hx
          clear hx
          go_wp2_with (go_at_call 12; refine hcall.mono ?_; rintro e w' ⟨rfl, rfl⟩)
          go_ret
          exact judge_no hno (World.Since.refl _ _)
        | true =>
          have hcall := hex_yes (c : Int) wr hx
          have HX : Hid (hexI (byteAt s k) = true) := by show hexI (byteAt s k) = true; rw [HB.out]; exact hx
          clear hx
          by_cases h12 : r < 12
          · have h12z : (r : Int) < 12 := by omega
            go_wp2_with (go_at_call 12; refine hcall.mono ?_; rintro e w' ⟨rfl, rfl⟩)
            go_roundg (s.size - (k + 1))
            case measure => omega
            case rel => exact ⟨rfl, k + 1, g, r + 1, by omega, rfl, rfl, by go_num, by go_num, hR.digit HX.out h12⟩
          · obtain rfl : r = 12 := by omega
            have hno := hR.tooLong hlt rfl
            go_wp2_with (go_at_call 12; refine hcall.mono ?_; rintro e w' ⟨rfl, rfl⟩)
            go_ret
            exact judge_no hno (World.Since.refl _ _)
    · obtain rfl : k = s.size := by omega
      have hfin := hR.final
      by_cases h4 : g = 4
      · subst h4
        by_cases h12 : r = 12
        · subst h12
          have hu := hfin.1 ⟨rfl, rfl⟩
          clear hfin
          go_wp2
          go_ret
          exact judge_iff ⟨fun _ => hu, fun _ => rfl⟩ (World.Since.refl _ _)
        · have hno : ¬ Uuid s.size (byteAt s) := fun u => h12 (hfin.2 u).2
          have h12b : ((r : Int) == 12) = false := by simp; omega
          clear hfin
          go_wp2
          go_ret
          exact judge_no hno (World.Since.refl _ _)
      · have hno : ¬ Uuid s.size (byteAt s) := fun u => h4 (hfin.2 u).1
        have h4b : ((g : Int) == 4) = false := by simp; omega
        clear hfin
        go_wp2
        go_ret
        exact judge_no hno (World.Since.refl _ _)

end Go.Proofs.Qxb6001145a
