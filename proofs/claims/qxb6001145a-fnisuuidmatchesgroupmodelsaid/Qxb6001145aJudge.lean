import Derived.Test.Qxb6001145aModel
namespace Go.Proofs.Qxb6001145a
open Go.RowKit Go.Deep

theorem since_iter (w : World) (s : ByteArray) (k : Nat) : w.Since w.heap.size (w.iter s k) := (World.Since.refl _ _).alloc (Nat.le_refl _) _

/-- A byte of 128 or more is none of a UUID's. -/
theorem high_no {s : ByteArray} {k : Nat} (hk : k < 36) (hc : 128 ≤ byteAt s k) : ¬ Uuid s.size (byteAt s) := by
  intro u
  have h1 := u.2 k hk
  by_cases e : k = 8 ∨ k = 13 ∨ k = 18 ∨ k = 23
  · have := h1.1 e; omega
  · have h2 := h1.2 e
    rw [hexI_iff] at h2
    omega

theorem bad_no {s : ByteArray} {k : Nat} (hk : k < 36) (hc : ¬ okAt (byteAt s) k) : ¬ Uuid s.size (byteAt s) := fun u => hc (u.2 k hk)

theorem ok_next {f : Nat → Int} {k : Nat} (h : ∀ i, i < k → okAt f i) (hk : okAt f k) : ∀ i, i < k + 1 → okAt f i := fun i hi => by
  by_cases e : i = k
  · subst e; exact hk
  · exact h i (by omega)

set_option maxHeartbeats 1600000 in
theorem isUUID_any (s : ByteArray) (hs : s.size ≤ 1048576) (w : World) : Calls Try.prog 14 #[.string s] w (JudgeSaid w s) := by
  have _ := hs
  by_cases h36 : s.size = 36
  case neg =>
    have h36b : ((s.size : Int) != 36) = true := by simp; omega
    have hno : ¬ Uuid s.size (byteAt s) := fun u => h36 u.1
    go_enter Try.func14, Try.ntmps14
    go_wp2
    go_ret
    exact judge_no hno (World.Since.refl _ _)
  have h36b : ((s.size : Int) != 36) = false := by simp; omega
  have H36 : Hid (s.size = 36) := h36
  clear h36
  go_enter Try.func14, Try.ntmps14
  go_wp2
  go_loopg [10] 36 (fun q _ wr => ∃ k : Nat, k ≤ 36 ∧ q = 36 - k ∧ wr = w.iter s k ∧ ∀ i, i < k → okAt (byteAt s) i)
  case atStart => exact ⟨0, Nat.zero_le _, rfl, rfl, fun i hi => absurd hi (Nat.not_lt_zero _)⟩
  case round =>
    obtain ⟨k, hk, rfl, rfl, hok⟩ := hrel
    have HO : Hid (∀ i, i < k → okAt (byteAt s) i) := hok
    clear hok
    by_cases hlt : k < 36
    · have hls : k < s.size := by have := H36.out; omega
      obtain ⟨c, hc⟩ : ∃ c : Nat, (s[k]'hls).toNat = c := ⟨_, rfl⟩
      have HB : Hid (byteAt s k = (c : Int)) := by
        show byteAt s k = (c : Int)
        rw [byteAt_lt s k hls, hc]
      by_cases h128 : c < 128
      · have hnx := fun ty => run_next_ascii (P := Try.prog) w s k ty hls (by rw [hc]; exact h128)
        rw [hc] at hnx
        clear hc
        by_cases e : k = 8 ∨ k = 13 ∨ k = 18 ∨ k = 23
        · by_cases h45 : c = 45
          · subst h45
            have HK : Hid (okAt (byteAt s) k) := ⟨fun _ => HB.out, fun h => absurd e h⟩
            rcases e with rfl | rfl | rfl | rfl
            · go_wp2
              go_roundg 27
              case measure => decide
              case rel => exact ⟨9, by decide, rfl, rfl, ok_next HO.out HK.out⟩
            · go_wp2
              go_roundg 22
              case measure => decide
              case rel => exact ⟨14, by decide, rfl, rfl, ok_next HO.out HK.out⟩
            · go_wp2
              go_roundg 17
              case measure => decide
              case rel => exact ⟨19, by decide, rfl, rfl, ok_next HO.out HK.out⟩
            · go_wp2
              go_roundg 12
              case measure => decide
              case rel => exact ⟨24, by decide, rfl, rfl, ok_next HO.out HK.out⟩
          · have h45b : ((c : Int) != 45) = true := by simp; omega
            have hno := bad_no (s := s) hlt (fun h => by have h1 := h.1 e; rw [HB.out] at h1; omega)
            rcases e with rfl | rfl | rfl | rfl
            all_goals
              go_wp2
              go_ret
              exact judge_no hno (since_iter _ _ _)
        · have k1 : ((k : Int) == 8) = false := by simp; omega
          have k2 : ((k : Int) == 13) = false := by simp; omega
          have k3 : ((k : Int) == 18) = false := by simp; omega
          have k4 : ((k : Int) == 23) = false := by simp; omega
          cases hx : hexI (c : Int) with
          | true =>
            have HK : Hid (okAt (byteAt s) k) := ⟨fun h => absurd h e, fun _ => by rw [HB.out]; exact hx⟩
            rw [hexI_iff] at hx
            clear e
            rcases hx with ⟨h1, h2⟩ | ⟨h1, h2⟩ | ⟨h1, h2⟩
            all_goals
              go_wp2
              go_roundg (36 - (k + 1))
              case measure => omega
              case rel => exact ⟨k + 1, by omega, rfl, rfl, ok_next HO.out HK.out⟩
          | false =>
            have hno := bad_no (s := s) hlt (fun h => by have h1 := h.2 e; rw [HB.out, hx] at h1; cases h1)
            rw [hexI_no] at hx
            clear e
            rcases (show (c : Int) < 48 ∨ (57 < (c : Int) ∧ (c : Int) < 65) ∨ (70 < (c : Int) ∧ (c : Int) < 97) ∨ 102 < (c : Int) by omega) with h1 | ⟨h1, h2⟩ | ⟨h1, h2⟩ | h1
            all_goals
              clear hx
              go_wp2
              go_ret
              exact judge_no hno (since_iter _ _ _)
      · have hno : ¬ Uuid s.size (byteAt s) := high_no hlt (by rw [HB.out]; omega)
        have hd := (decode_high s k hls (by rw [hc]; omega)).1
        have hnx := fun ty => run_next_any (P := Try.prog) w s k ty hls
        obtain ⟨r, hr⟩ : ∃ r, (Utf8.decode s k).1 = r := ⟨_, rfl⟩
        obtain ⟨d, hd2⟩ : ∃ d, (Utf8.decode s k).2 = d := ⟨_, rfl⟩
        rw [hr] at hd
        rw [hr, hd2] at hnx
        clear hr hd2 hc h128
        have r1 : ((r : Int) != 45) = true := by simp; omega
        have r2 : (102 : Int) < (r : Int) := by omega
        by_cases e : k = 8 ∨ k = 13 ∨ k = 18 ∨ k = 23
        · rcases e with rfl | rfl | rfl | rfl
          all_goals
            go_wp2
            go_ret
            exact judge_no hno (since_iter _ _ _)
        · have k1 : ((k : Int) == 8) = false := by simp; omega
          have k2 : ((k : Int) == 13) = false := by simp; omega
          have k3 : ((k : Int) == 18) = false := by simp; omega
          have k4 : ((k : Int) == 23) = false := by simp; omega
          clear e
          go_wp2
          go_ret
          exact judge_no hno (since_iter _ _ _)
    · obtain rfl : k = 36 := by omega
      have hnx := fun ty => run_next_end (P := Try.prog) w s 36 ty (by have := H36.out; omega)
      have hu : Uuid s.size (byteAt s) := ⟨H36.out, HO.out⟩
      go_wp2
      go_ret
      exact judge_iff ⟨fun _ => hu, fun _ => rfl⟩ (since_iter _ _ _)

theorem zzIsUUID_any (s : ByteArray) (hs : s.size ≤ 1048576) (w : World) : Calls Try.prog 7 #[.string s] w (JudgeSaid w s) := by
  have hc := isUUID_any s hs w
  go_enter Try.func7, Try.ntmps7
  go_wp2_with (go_at_call 14; refine hc.mono ?_; rintro e w' ⟨b, rfl, hb, hsn⟩)
  go_ret
  exact ⟨b, rfl, hb, hsn⟩

def TrueSaid (w : World) (e : Ending) (w' : World) : Prop := e = .returned (.bool true) ∧ w.Since w.heap.size w'

theorem same_judge {b b2 : Bool} {p : Prop} (h : b = true ↔ p) (h2 : b2 = true ↔ p) : b = b2 := by
  cases b <;> cases b2 <;> simp_all

theorem law_walk (s : ByteArray) (hs : s.size ≤ maxLen) (w : World) : Calls Try.prog 3 #[.string s] w (TrueSaid w) := by
  unfold maxLen at hs
  by_cases b0 : (s.size : Int) ≤ 1048576
  case neg =>
    go_enter Try.func3, Try.ntmps3
    go_wp2
    go_ret
    exact ⟨rfl, World.Since.refl _ _⟩
  have hs' : s.size ≤ 1048576 := by omega
  have h7 := zzIsUUID_any s hs' w
  go_enter Try.func3, Try.ntmps3
  go_wp2_with (go_at_call 6; go_in)
  refine h7.mono ?_
  rintro e w1 ⟨b, rfl, hb, hs1⟩
  have h8 := model_any s hs' w1
  clear h7
  have HB : Hid (b = true ↔ Uuid s.size (byteAt s)) := hb
  clear hb
  go_wp2_with fail
  refine h8.mono ?_
  rintro e w2 ⟨b2, rfl, hb2, hs2⟩
  obtain rfl := same_judge HB.out hb2
  clear h8 hb2 HB
  go_wp2
  go_ret
  exact ⟨ret_yes (by simp), hs1.trans ⟨hs2.os, hs2.tape, hs2.output, hs2.size, fun x hx => hs2.block x (Nat.lt_of_lt_of_le hx hs1.size)⟩⟩

end Go.Proofs.Qxb6001145a
