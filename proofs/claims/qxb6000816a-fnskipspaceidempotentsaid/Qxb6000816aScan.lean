/-
  The scanner in memory, and its three small methods: done, peek, skipSpace.
-/
import Derived.Test.Qxb6000816aChecked
import Derived.WalkKit
import Derived.WalkSpells
import Derived.WalkLawsBesides
import Derived.Deep.OwnRows
import Derived.Deep.LoopGhost
import Derived.Deep.QuietTactic
import Derived.BigQuiet
import Derived.KernelRfl
namespace Go.Proofs.Qxb6000816a
open Go.RowKit Go.Deep

/-- Block b is a scanner over s, at offset i, on line l. -/
def Scan (w : World) (b : Nat) (s : ByteArray) (i l : Int) : Prop := w.heap[b]? = some (.cells #[.string s, .int .i64 i, .int .i64 l, .slice none 0 0] 37 (0, 0))

/-- The byte at k; 0 at the end: what peek answers. -/
def byteAt (s : ByteArray) (k : Nat) : Int := if h : k < s.size then ((s[k]'h).toNat : Int) else 0

theorem Scan.text {w : World} {b : Nat} {s : ByteArray} {i l : Int} (h : Scan w b s i l) : w.cell? ⟨b, 0, none⟩ = some (.string s) := by simp [World.cell?, show w.heap[b]? = _ from h]
theorem Scan.off {w : World} {b : Nat} {s : ByteArray} {i l : Int} (h : Scan w b s i l) : w.cell? ⟨b, 1, none⟩ = some (.int .i64 i) := by simp [World.cell?, show w.heap[b]? = _ from h]
theorem Scan.line {w : World} {b : Nat} {s : ByteArray} {i l : Int} (h : Scan w b s i l) : w.cell? ⟨b, 2, none⟩ = some (.int .i64 l) := by simp [World.cell?, show w.heap[b]? = _ from h]
theorem Scan.free {w : World} {b : Nat} {s : ByteArray} {i l : Int} (h : Scan w b s i l) (k : Nat) : w.frozen? ⟨b, k, none⟩ = false := by simp [World.frozen?, show w.heap[b]? = _ from h]
theorem Scan.drewN {w : World} {b : Nat} {s : ByteArray} {i l : Int} (h : Scan w b s i l) (n : Nat) : Scan (w.drewN n) b s i l := h
theorem Scan.setOff {w : World} {b : Nat} {s : ByteArray} {i l : Int} (h : Scan w b s i l) (x : Int) : Scan (w.setCell ⟨b, 1, none⟩ (.int .i64 x)) b s x l := by
  unfold Scan at *
  simp [World.setCell, Array.getElem?_modify, h]
theorem Scan.setLine {w : World} {b : Nat} {s : ByteArray} {i l : Int} (h : Scan w b s i l) (x : Int) : Scan (w.setCell ⟨b, 2, none⟩ (.int .i64 x)) b s i x := by
  unfold Scan at *
  simp [World.setCell, Array.getElem?_modify, h]

theorem ret_bool {a b : Bool} (h : a = b) : Ending.returned (.bool a) = .returned (.bool b) := by rw [h]
theorem drewN_add (w : World) (n m : Nat) : (w.drewN n).drewN m = w.drewN (n + m) := by simp [World.drewN, Nat.add_assoc]

theorem done_no {w : World} {b : Nat} {s : ByteArray} {k : Nat} {l : Int} (h : Scan w b s k l) (hk : k < s.size) :
    Calls Try.prog 31 #[.pointer (some ⟨b, 0, none⟩)] w fun e w' => e = .returned (.bool false) ∧ ∃ n, w' = w.drewN n := by
  have c0 := h.text
  have c1 := h.off
  have HZ : Hid (decide (s.size ≤ k) = false) := decide_eq_false (by omega)
  clear h hk
  go_enter Try.func31, Try.ntmps31
  go_wp2
  go_quiet (fail)
  go_wp2
  go_ret
  exact ⟨ret_bool HZ.out, _, rfl⟩

theorem done_yes {w : World} {b : Nat} {s : ByteArray} {k : Nat} {l : Int} (h : Scan w b s k l) (hk : ¬ k < s.size) :
    Calls Try.prog 31 #[.pointer (some ⟨b, 0, none⟩)] w fun e w' => e = .returned (.bool true) ∧ ∃ n, w' = w.drewN n := by
  have c0 := h.text
  have c1 := h.off
  have HZ : Hid (decide (s.size ≤ k) = true) := decide_eq_true (by omega)
  clear h hk
  go_enter Try.func31, Try.ntmps31
  go_wp2
  go_quiet (fail)
  go_wp2
  go_ret
  exact ⟨ret_bool HZ.out, _, rfl⟩

theorem peek_no {w : World} {b : Nat} {s : ByteArray} {k : Nat} {l : Int} (h : Scan w b s k l) (hk : k < s.size) :
    Calls Try.prog 32 #[.pointer (some ⟨b, 0, none⟩)] w fun e w' => e = .returned (.int .u8 (byteAt s k)) ∧ ∃ n, w' = w.drewN n := by
  have c0 := h.text
  have c1 := h.off
  have hc := done_no h hk
  have hkz : (k : Int) < (s.size : Int) := by omega
  have HB : Hid (byteAt s k = ((s[k]'hk).toNat : Int)) := by simp [byteAt, hk, Hid]
  clear h
  go_enter Try.func32, Try.ntmps32
  go_wp2_with (go_at_call 31; refine hc.mono ?_; rintro e w' ⟨rfl, n, rfl⟩)
  go_quiet (fail)
  go_wp2
  go_ret
  exact ⟨by rw [HB.out]; rfl, _, drewN_add w n nq⟩

end Go.Proofs.Qxb6000816a
