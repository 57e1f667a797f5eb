/-
  THE PLAIN LAW: the word-at-once tests, byte by byte. No Go in sight but the model's own 'bits' and 'wrap'.
-/
import Derived.WalkKit
namespace Go.Proofs.Qxb6000488a

/-! ### Numbers in base 256 -/

theorem cat_and (a b x y : Nat) (ha : a < 256) (hb : b < 256) : (a + 256 * x) &&& (b + 256 * y) = (a &&& b) + 256 * (x &&& y) := by
  have h1 : ((a + 256 * x) &&& (b + 256 * y)) % 2 ^ 8 = a &&& b := by
    rw [Nat.and_mod_two_pow, show (a + 256 * x) % 2 ^ 8 = a by omega, show (b + 256 * y) % 2 ^ 8 = b by omega]
  have h2 : ((a + 256 * x) &&& (b + 256 * y)) / 2 ^ 8 = x &&& y := by
    rw [Nat.and_div_two_pow, show (a + 256 * x) / 2 ^ 8 = x by omega, show (b + 256 * y) / 2 ^ 8 = y by omega]
  omega

theorem cat_or (a b x y : Nat) (ha : a < 256) (hb : b < 256) : (a + 256 * x) ||| (b + 256 * y) = (a ||| b) + 256 * (x ||| y) := by
  have h1 : ((a + 256 * x) ||| (b + 256 * y)) % 2 ^ 8 = a ||| b := by
    rw [Nat.or_mod_two_pow, show (a + 256 * x) % 2 ^ 8 = a by omega, show (b + 256 * y) % 2 ^ 8 = b by omega]
  have h2 : ((a + 256 * x) ||| (b + 256 * y)) / 2 ^ 8 = x ||| y := by
    rw [Nat.or_div_two_pow, show (a + 256 * x) / 2 ^ 8 = x by omega, show (b + 256 * y) / 2 ^ 8 = y by omega]
  omega

theorem cat_inj {a b x y : Nat} (ha : a < 256) (hb : b < 256) (h : a + 256 * x = b + 256 * y) : a = b ∧ x = y := by omega

/-- Eight bytes, the first the lowest. -/
def cat8 (b0 b1 b2 b3 b4 b5 b6 b7 : Nat) : Nat := b0 + 256 * (b1 + 256 * (b2 + 256 * (b3 + 256 * (b4 + 256 * (b5 + 256 * (b6 + 256 * (b7 + 256 * 0)))))))

theorem cat8_and {a0 a1 a2 a3 a4 a5 a6 a7 b0 b1 b2 b3 b4 b5 b6 b7 : Nat} (h0 : a0 < 256) (h1 : a1 < 256) (h2 : a2 < 256) (h3 : a3 < 256) (h4 : a4 < 256) (h5 : a5 < 256) (h6 : a6 < 256) (h7 : a7 < 256)
    (k0 : b0 < 256) (k1 : b1 < 256) (k2 : b2 < 256) (k3 : b3 < 256) (k4 : b4 < 256) (k5 : b5 < 256) (k6 : b6 < 256) (k7 : b7 < 256) :
    cat8 a0 a1 a2 a3 a4 a5 a6 a7 &&& cat8 b0 b1 b2 b3 b4 b5 b6 b7 = cat8 (a0 &&& b0) (a1 &&& b1) (a2 &&& b2) (a3 &&& b3) (a4 &&& b4) (a5 &&& b5) (a6 &&& b6) (a7 &&& b7) := by
  unfold cat8
  rw [cat_and _ _ _ _ h0 k0, cat_and _ _ _ _ h1 k1, cat_and _ _ _ _ h2 k2, cat_and _ _ _ _ h3 k3, cat_and _ _ _ _ h4 k4, cat_and _ _ _ _ h5 k5, cat_and _ _ _ _ h6 k6, cat_and _ _ _ _ h7 k7, Nat.and_self]

theorem cat8_or {a0 a1 a2 a3 a4 a5 a6 a7 b0 b1 b2 b3 b4 b5 b6 b7 : Nat} (h0 : a0 < 256) (h1 : a1 < 256) (h2 : a2 < 256) (h3 : a3 < 256) (h4 : a4 < 256) (h5 : a5 < 256) (h6 : a6 < 256) (h7 : a7 < 256)
    (k0 : b0 < 256) (k1 : b1 < 256) (k2 : b2 < 256) (k3 : b3 < 256) (k4 : b4 < 256) (k5 : b5 < 256) (k6 : b6 < 256) (k7 : b7 < 256) :
    cat8 a0 a1 a2 a3 a4 a5 a6 a7 ||| cat8 b0 b1 b2 b3 b4 b5 b6 b7 = cat8 (a0 ||| b0) (a1 ||| b1) (a2 ||| b2) (a3 ||| b3) (a4 ||| b4) (a5 ||| b5) (a6 ||| b6) (a7 ||| b7) := by
  unfold cat8
  rw [cat_or _ _ _ _ h0 k0, cat_or _ _ _ _ h1 k1, cat_or _ _ _ _ h2 k2, cat_or _ _ _ _ h3 k3, cat_or _ _ _ _ h4 k4, cat_or _ _ _ _ h5 k5, cat_or _ _ _ _ h6 k6, cat_or _ _ _ _ h7 k7, Nat.or_self]

theorem cat8_inj {a0 a1 a2 a3 a4 a5 a6 a7 b0 b1 b2 b3 b4 b5 b6 b7 : Nat} (h0 : a0 < 256) (h1 : a1 < 256) (h2 : a2 < 256) (h3 : a3 < 256) (h4 : a4 < 256) (h5 : a5 < 256) (h6 : a6 < 256)
    (k0 : b0 < 256) (k1 : b1 < 256) (k2 : b2 < 256) (k3 : b3 < 256) (k4 : b4 < 256) (k5 : b5 < 256) (k6 : b6 < 256)
    (h : cat8 a0 a1 a2 a3 a4 a5 a6 a7 = cat8 b0 b1 b2 b3 b4 b5 b6 b7) : a0 = b0 ∧ a1 = b1 ∧ a2 = b2 ∧ a3 = b3 ∧ a4 = b4 ∧ a5 = b5 ∧ a6 = b6 ∧ a7 = b7 := by
  unfold cat8 at h
  obtain ⟨e0, h⟩ := cat_inj h0 k0 h
  obtain ⟨e1, h⟩ := cat_inj h1 k1 h
  obtain ⟨e2, h⟩ := cat_inj h2 k2 h
  obtain ⟨e3, h⟩ := cat_inj h3 k3 h
  obtain ⟨e4, h⟩ := cat_inj h4 k4 h
  obtain ⟨e5, h⟩ := cat_inj h5 k5 h
  obtain ⟨e6, h⟩ := cat_inj h6 k6 h
  exact ⟨e0, e1, e2, e3, e4, e5, e6, by omega⟩

theorem cat_lt {a x n : Nat} (ha : a < 256) (hx : x < n) : a + 256 * x < 256 * n := by omega

theorem cat8_lt {b0 b1 b2 b3 b4 b5 b6 b7 : Nat} (k0 : b0 < 256) (k1 : b1 < 256) (k2 : b2 < 256) (k3 : b3 < 256) (k4 : b4 < 256) (k5 : b5 < 256) (k6 : b6 < 256) (k7 : b7 < 256) : cat8 b0 b1 b2 b3 b4 b5 b6 b7 < 18446744073709551616 :=
  Nat.lt_of_lt_of_eq (cat_lt k0 (cat_lt k1 (cat_lt k2 (cat_lt k3 (cat_lt k4 (cat_lt k5 (cat_lt k6 (cat_lt k7 Nat.zero_lt_one)))))))) (by decide)

/-! ### One byte -/

theorem byte_a : ∀ b, b < 256 → 128 ≤ (b ||| 128) ∧ (b ||| 128) < 256 ∧ ((((b ||| 128) - 48) &&& 128 = 128) ↔ 48 ≤ b % 128) := by decide +kernel
theorem byte_b : ∀ b, b < 256 → (b &&& 127) + 70 < 256 ∧ (((((b &&& 127) + 70) ||| b) &&& 128 = 0) ↔ b ≤ 57) := by decide +kernel
theorem byte_128 : ∀ b, b < 256 → (b &&& 128) ≤ 128 := by decide +kernel
theorem byte_or : ∀ a, a < 256 → ∀ b, b < 256 → (a ||| b) < 256 := fun _ ha _ hb => Nat.or_lt_two_pow (n := 8) ha hb
theorem byte_0 (b : Nat) : b &&& 0 = 0 := Nat.and_zero b
theorem byte_255 : ∀ b, b < 256 → b &&& 255 = b := by decide +kernel

/-! ### The three tests -/

theorem k1_eq : (36169536663224448 : Int) = ((cat8 128 128 128 128 0 128 128 0 : Nat) : Int) := by unfold cat8; omega
theorem k2_eq : (13563576248709168 : Int) = ((cat8 48 48 48 48 0 48 48 0 : Nat) : Int) := by unfold cat8; omega
theorem k3_eq : (5063812098665367110 : Int) = ((cat8 70 70 70 70 70 70 70 70 : Nat) : Int) := by unfold cat8; omega
theorem k4_eq : (1095216660480 : Int) = ((cat8 0 0 0 0 255 0 0 0 : Nat) : Int) := by unfold cat8; omega
theorem k5_eq : (193273528320 : Int) = ((cat8 0 0 0 0 45 0 0 0 : Nat) : Int) := by unfold cat8; omega
theorem n1_eq : 18446744073709551615 - cat8 128 128 128 128 0 128 128 0 = cat8 127 127 127 127 255 127 127 255 := by unfold cat8; omega

theorem and_k1 {a0 a1 a2 a3 a4 a5 a6 a7 : Nat} (h0 : a0 < 256) (h1 : a1 < 256) (h2 : a2 < 256) (h3 : a3 < 256) (h4 : a4 < 256) (h5 : a5 < 256) (h6 : a6 < 256) (h7 : a7 < 256) :
    bits .and .u64 ((cat8 a0 a1 a2 a3 a4 a5 a6 a7 : Nat) : Int) 36169536663224448 = ((cat8 (a0 &&& 128) (a1 &&& 128) (a2 &&& 128) (a3 &&& 128) 0 (a5 &&& 128) (a6 &&& 128) 0 : Nat) : Int) := by
  rw [k1_eq, u64_and_nat _ _ (cat8_lt h0 h1 h2 h3 h4 h5 h6 h7) (cat8_lt (by omega) (by omega) (by omega) (by omega) (by omega) (by omega) (by omega) (by omega)), cat8_and h0 h1 h2 h3 h4 h5 h6 h7 (by omega) (by omega) (by omega) (by omega) (by omega) (by omega) (by omega) (by omega)]
  simp only [byte_0]

/-- The dash. -/
theorem testC {b0 b1 b2 b3 b4 b5 b6 b7 : Nat} (h0 : b0 < 256) (h1 : b1 < 256) (h2 : b2 < 256) (h3 : b3 < 256) (h4 : b4 < 256) (h5 : b5 < 256) (h6 : b6 < 256) (h7 : b7 < 256) : bits .and .u64 ((cat8 b0 b1 b2 b3 b4 b5 b6 b7 : Nat) : Int) 1095216660480 = ((cat8 0 0 0 0 b4 0 0 0 : Nat) : Int) := by
  rw [k4_eq, u64_and_nat _ _ (cat8_lt h0 h1 h2 h3 h4 h5 h6 h7) (cat8_lt (by omega) (by omega) (by omega) (by omega) (by omega) (by omega) (by omega) (by omega)), cat8_and h0 h1 h2 h3 h4 h5 h6 h7 (by omega) (by omega) (by omega) (by omega) (by omega) (by omega) (by omega) (by omega)]
  simp only [byte_0, byte_255 _ h4]

theorem sub_k2 {a0 a1 a2 a3 a4 a5 a6 a7 : Nat} (h0 : 48 ≤ a0) (h1 : 48 ≤ a1) (h2 : 48 ≤ a2) (h3 : 48 ≤ a3) (h5 : 48 ≤ a5) (h6 : 48 ≤ a6) :
    ((cat8 a0 a1 a2 a3 a4 a5 a6 a7 : Nat) : Int) - 13563576248709168 = ((cat8 (a0 - 48) (a1 - 48) (a2 - 48) (a3 - 48) a4 (a5 - 48) (a6 - 48) a7 : Nat) : Int) := by
  obtain ⟨c0, rfl⟩ := Nat.exists_eq_add_of_le h0
  obtain ⟨c1, rfl⟩ := Nat.exists_eq_add_of_le h1
  obtain ⟨c2, rfl⟩ := Nat.exists_eq_add_of_le h2
  obtain ⟨c3, rfl⟩ := Nat.exists_eq_add_of_le h3
  obtain ⟨c5, rfl⟩ := Nat.exists_eq_add_of_le h5
  obtain ⟨c6, rfl⟩ := Nat.exists_eq_add_of_le h6
  simp only [Nat.add_sub_cancel_left]
  unfold cat8
  omega

theorem wrap_id (n : Nat) (h : n < 18446744073709551616) : IntKind.u64.wrap (n : Int) = (n : Int) := by
  rw [IntKind.wrap_u64]
  exact Int.emod_eq_of_lt (Int.natCast_nonneg n) (by omega)

/-- Is every digit's byte, its high bit put by, '0' or more? -/
theorem testA {b0 b1 b2 b3 b4 b5 b6 b7 : Nat} (h0 : b0 < 256) (h1 : b1 < 256) (h2 : b2 < 256) (h3 : b3 < 256) (h4 : b4 < 256) (h5 : b5 < 256) (h6 : b6 < 256) (h7 : b7 < 256) :
    bits .and .u64 (IntKind.u64.wrap (bits .or .u64 ((cat8 b0 b1 b2 b3 b4 b5 b6 b7 : Nat) : Int) 36169536663224448 - 13563576248709168)) 36169536663224448 =
      ((cat8 (((b0 ||| 128) - 48) &&& 128) (((b1 ||| 128) - 48) &&& 128) (((b2 ||| 128) - 48) &&& 128) (((b3 ||| 128) - 48) &&& 128) 0 (((b5 ||| 128) - 48) &&& 128) (((b6 ||| 128) - 48) &&& 128) 0 : Nat) : Int) := by
  have e1 : bits .or .u64 ((cat8 b0 b1 b2 b3 b4 b5 b6 b7 : Nat) : Int) 36169536663224448 = ((cat8 (b0 ||| 128) (b1 ||| 128) (b2 ||| 128) (b3 ||| 128) b4 (b5 ||| 128) (b6 ||| 128) b7 : Nat) : Int) := by
    rw [k1_eq, u64_or_nat _ _ (cat8_lt h0 h1 h2 h3 h4 h5 h6 h7) (cat8_lt (by omega) (by omega) (by omega) (by omega) (by omega) (by omega) (by omega) (by omega)), cat8_or h0 h1 h2 h3 h4 h5 h6 h7 (by omega) (by omega) (by omega) (by omega) (by omega) (by omega) (by omega) (by omega)]
    simp only [Nat.or_zero]
  have g0 := byte_a b0 h0
  have g1 := byte_a b1 h1
  have g2 := byte_a b2 h2
  have g3 := byte_a b3 h3
  have g5 := byte_a b5 h5
  have g6 := byte_a b6 h6
  have e2 := sub_k2 (a0 := b0 ||| 128) (a1 := b1 ||| 128) (a2 := b2 ||| 128) (a3 := b3 ||| 128) (a4 := b4) (a5 := b5 ||| 128) (a6 := b6 ||| 128) (a7 := b7) (by omega) (by omega) (by omega) (by omega) (by omega) (by omega)
  rw [e1, e2, wrap_id _ (cat8_lt (by omega) (by omega) (by omega) (by omega) h4 (by omega) (by omega) h7), and_k1 (by omega) (by omega) (by omega) (by omega) h4 (by omega) (by omega) h7]

theorem cat8_top (c0 c1 c2 c3 c4 c5 c6 t : Nat) : cat8 c0 c1 c2 c3 c4 c5 c6 t = cat8 c0 c1 c2 c3 c4 c5 c6 (t % 256) + 18446744073709551616 * (t / 256) := by
  have e := Nat.mod_add_div t 256
  generalize t % 256 = r at *
  generalize t / 256 = q at *
  subst e
  unfold cat8
  omega

theorem wrap_top {c0 c1 c2 c3 c4 c5 c6 t : Nat} (h0 : c0 < 256) (h1 : c1 < 256) (h2 : c2 < 256) (h3 : c3 < 256) (h4 : c4 < 256) (h5 : c5 < 256) (h6 : c6 < 256) :
    IntKind.u64.wrap ((cat8 c0 c1 c2 c3 c4 c5 c6 t : Nat) : Int) = ((cat8 c0 c1 c2 c3 c4 c5 c6 (t % 256) : Nat) : Int) := by
  have hl : cat8 c0 c1 c2 c3 c4 c5 c6 (t % 256) < 18446744073709551616 := cat8_lt h0 h1 h2 h3 h4 h5 h6 (Nat.mod_lt _ (by omega))
  rw [cat8_top, IntKind.wrap_u64, Int.natCast_add, Int.natCast_mul]
  have e : ((18446744073709551616 : Nat) : Int) = 18446744073709551616 := by omega
  rw [e, Int.add_mul_emod_self_left]
  exact Int.emod_eq_of_lt (Int.natCast_nonneg _) (by omega)

theorem add_k3 {a0 a1 a2 a3 a4 a5 a6 a7 : Nat} : ((cat8 a0 a1 a2 a3 a4 a5 a6 a7 : Nat) : Int) + 5063812098665367110 = ((cat8 (a0 + 70) (a1 + 70) (a2 + 70) (a3 + 70) (a4 + 70) (a5 + 70) (a6 + 70) (a7 + 70) : Nat) : Int) := by
  unfold cat8
  omega

/-- Is no digit's byte past '9'? (At a dash no carry comes into byte 5.) -/
theorem testB {b0 b1 b2 b3 b4 b5 b6 b7 : Nat} (h0 : b0 < 256) (h1 : b1 < 256) (h2 : b2 < 256) (h3 : b3 < 256) (h4 : b4 = 45) (h5 : b5 < 256) (h6 : b6 < 256) (h7 : b7 < 256) :
    bits .and .u64 (bits .or .u64 (IntKind.u64.wrap (bits .andNot .u64 ((cat8 b0 b1 b2 b3 b4 b5 b6 b7 : Nat) : Int) 36169536663224448 + 5063812098665367110)) ((cat8 b0 b1 b2 b3 b4 b5 b6 b7 : Nat) : Int)) 36169536663224448 =
      ((cat8 ((((b0 &&& 127) + 70) ||| b0) &&& 128) ((((b1 &&& 127) + 70) ||| b1) &&& 128) ((((b2 &&& 127) + 70) ||| b2) &&& 128) ((((b3 &&& 127) + 70) ||| b3) &&& 128) 0 ((((b5 &&& 127) + 70) ||| b5) &&& 128) ((((b6 &&& 127) + 70) ||| b6) &&& 128) 0 : Nat) : Int) := by
  have h4' : b4 < 256 := by omega
  have e1 : bits .andNot .u64 ((cat8 b0 b1 b2 b3 b4 b5 b6 b7 : Nat) : Int) 36169536663224448 = ((cat8 (b0 &&& 127) (b1 &&& 127) (b2 &&& 127) (b3 &&& 127) b4 (b5 &&& 127) (b6 &&& 127) b7 : Nat) : Int) := by
    rw [k1_eq, u64_andNot_nat _ _ (cat8_lt h0 h1 h2 h3 h4' h5 h6 h7) (cat8_lt (by omega) (by omega) (by omega) (by omega) (by omega) (by omega) (by omega) (by omega)), n1_eq, cat8_and h0 h1 h2 h3 h4' h5 h6 h7 (by omega) (by omega) (by omega) (by omega) (by omega) (by omega) (by omega) (by omega)]
    rw [byte_255 _ h4', byte_255 _ h7]
  have g0 := (byte_b b0 h0).1
  have g1 := (byte_b b1 h1).1
  have g2 := (byte_b b2 h2).1
  have g3 := (byte_b b3 h3).1
  have g5 := (byte_b b5 h5).1
  have g6 := (byte_b b6 h6).1
  have g7 : (b7 + 70) % 256 < 256 := Nat.mod_lt _ (by omega)
  rw [e1, add_k3, wrap_top g0 g1 g2 g3 (by omega) g5 g6, u64_or_nat _ _ (cat8_lt g0 g1 g2 g3 (by omega) g5 g6 g7) (cat8_lt h0 h1 h2 h3 h4' h5 h6 h7),
    cat8_or g0 g1 g2 g3 (by omega) g5 g6 g7 h0 h1 h2 h3 h4' h5 h6 h7,
    and_k1 (byte_or _ g0 _ h0) (byte_or _ g1 _ h1) (byte_or _ g2 _ h2) (byte_or _ g3 _ h3) (byte_or _ (by omega) _ h4') (byte_or _ g5 _ h5) (byte_or _ g6 _ h6) (byte_or _ g7 _ h7)]

/-- The word holds six digits and a dash. -/
def Digits (b0 b1 b2 b3 b4 b5 b6 : Nat) : Prop := (48 ≤ b0 ∧ b0 ≤ 57) ∧ (48 ≤ b1 ∧ b1 ≤ 57) ∧ (48 ≤ b2 ∧ b2 ≤ 57) ∧ (48 ≤ b3 ∧ b3 ≤ 57) ∧ b4 = 45 ∧ (48 ≤ b5 ∧ b5 ≤ 57) ∧ (48 ≤ b6 ∧ b6 ≤ 57)

theorem tests {b0 b1 b2 b3 b4 b5 b6 b7 : Nat} (h0 : b0 < 256) (h1 : b1 < 256) (h2 : b2 < 256) (h3 : b3 < 256) (h4 : b4 < 256) (h5 : b5 < 256) (h6 : b6 < 256) (h7 : b7 < 256) :
    (bits .and .u64 (IntKind.u64.wrap (bits .or .u64 ((cat8 b0 b1 b2 b3 b4 b5 b6 b7 : Nat) : Int) 36169536663224448 - 13563576248709168)) 36169536663224448 = 36169536663224448 ∧
     bits .and .u64 (bits .or .u64 (IntKind.u64.wrap (bits .andNot .u64 ((cat8 b0 b1 b2 b3 b4 b5 b6 b7 : Nat) : Int) 36169536663224448 + 5063812098665367110)) ((cat8 b0 b1 b2 b3 b4 b5 b6 b7 : Nat) : Int)) 36169536663224448 = 0 ∧
     bits .and .u64 ((cat8 b0 b1 b2 b3 b4 b5 b6 b7 : Nat) : Int) 1095216660480 = 193273528320) ↔ Digits b0 b1 b2 b3 b4 b5 b6 := by
  have z : (0 : Int) = ((cat8 0 0 0 0 0 0 0 0 : Nat) : Int) := by unfold cat8; omega
  have lt1 : ∀ b, b < 256 → (b &&& 128) < 256 := fun b hb => by have := byte_128 b hb; omega
  have a0 := byte_a b0 h0
  have a1 := byte_a b1 h1
  have a2 := byte_a b2 h2
  have a3 := byte_a b3 h3
  have a5 := byte_a b5 h5
  have a6 := byte_a b6 h6
  have c0 := byte_b b0 h0
  have c1 := byte_b b1 h1
  have c2 := byte_b b2 h2
  have c3 := byte_b b3 h3
  have c5 := byte_b b5 h5
  have c6 := byte_b b6 h6
  have hC : bits .and .u64 ((cat8 b0 b1 b2 b3 b4 b5 b6 b7 : Nat) : Int) 1095216660480 = 193273528320 ↔ b4 = 45 := by
    rw [testC h0 h1 h2 h3 h4 h5 h6 h7, k5_eq]
    constructor
    · intro h
      exact (cat8_inj (by omega) (by omega) (by omega) (by omega) h4 (by omega) (by omega) (by omega) (by omega) (by omega) (by omega) (by omega) (by omega) (by omega) (Int.ofNat.inj h)).2.2.2.2.1
    · intro h; rw [h]
  have hA : bits .and .u64 (IntKind.u64.wrap (bits .or .u64 ((cat8 b0 b1 b2 b3 b4 b5 b6 b7 : Nat) : Int) 36169536663224448 - 13563576248709168)) 36169536663224448 = 36169536663224448 ↔ (48 ≤ b0 % 128 ∧ 48 ≤ b1 % 128 ∧ 48 ≤ b2 % 128 ∧ 48 ≤ b3 % 128 ∧ 48 ≤ b5 % 128 ∧ 48 ≤ b6 % 128) := by
    rw [testA h0 h1 h2 h3 h4 h5 h6 h7, ← a0.2.2, ← a1.2.2, ← a2.2.2, ← a3.2.2, ← a5.2.2, ← a6.2.2]
    constructor
    · intro h
      rw [k1_eq] at h
      obtain ⟨e0, e1, e2, e3, _, e5, e6, _⟩ := cat8_inj (lt1 _ (by omega)) (lt1 _ (by omega)) (lt1 _ (by omega)) (lt1 _ (by omega)) (by omega) (lt1 _ (by omega)) (lt1 _ (by omega)) (by omega) (by omega) (by omega) (by omega) (by omega) (by omega) (by omega) (Int.ofNat.inj h)
      exact ⟨e0, e1, e2, e3, e5, e6⟩
    · rintro ⟨e0, e1, e2, e3, e5, e6⟩
      rw [e0, e1, e2, e3, e5, e6, k1_eq]
  have hB : b4 = 45 → (bits .and .u64 (bits .or .u64 (IntKind.u64.wrap (bits .andNot .u64 ((cat8 b0 b1 b2 b3 b4 b5 b6 b7 : Nat) : Int) 36169536663224448 + 5063812098665367110)) ((cat8 b0 b1 b2 b3 b4 b5 b6 b7 : Nat) : Int)) 36169536663224448 = 0 ↔ (b0 ≤ 57 ∧ b1 ≤ 57 ∧ b2 ≤ 57 ∧ b3 ≤ 57 ∧ b5 ≤ 57 ∧ b6 ≤ 57)) := by
    intro h45
    rw [testB h0 h1 h2 h3 h45 h5 h6 h7, ← c0.2, ← c1.2, ← c2.2, ← c3.2, ← c5.2, ← c6.2]
    constructor
    · intro h
      rw [z] at h
      obtain ⟨e0, e1, e2, e3, _, e5, e6, _⟩ := cat8_inj (lt1 _ (byte_or _ c0.1 _ h0)) (lt1 _ (byte_or _ c1.1 _ h1)) (lt1 _ (byte_or _ c2.1 _ h2)) (lt1 _ (byte_or _ c3.1 _ h3)) (by omega) (lt1 _ (byte_or _ c5.1 _ h5)) (lt1 _ (byte_or _ c6.1 _ h6)) (by omega) (by omega) (by omega) (by omega) (by omega) (by omega) (by omega) (Int.ofNat.inj h)
      exact ⟨e0, e1, e2, e3, e5, e6⟩
    · rintro ⟨e0, e1, e2, e3, e5, e6⟩
      rw [e0, e1, e2, e3, e5, e6, z]
  unfold Digits
  constructor
  · rintro ⟨x, y, t⟩
    have x' := hA.1 x
    have t' := hC.1 t
    have y' := (hB t').1 y
    omega
  · intro d
    exact ⟨hA.2 (by omega), (hB (by omega)).2 (by omega), hC.2 (by omega)⟩

end Go.Proofs.Qxb6000488a
