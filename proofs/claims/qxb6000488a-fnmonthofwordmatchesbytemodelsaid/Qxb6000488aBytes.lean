import Derived.Test.Qxb6000488aPlain
namespace Go.Proofs.Qxb6000488a

theorem and255 (n : Nat) (h : n < 18446744073709551616) : bits .and .u64 (n : Int) 255 = ((n % 256 : Nat) : Int) := by
  rw [show (255 : Int) = ((255 : Nat) : Int) by omega, u64_and_nat _ _ h (by omega), nat_mask8]

theorem byte_at (n c : Nat) (h : n < 18446744073709551616) : bits .and .u64 ((n : Int) / ((c : Nat) : Int)) 255 = ((n / c % 256 : Nat) : Int) := by
  rw [← Int.natCast_ediv, and255 _ (Nat.lt_of_le_of_lt (Nat.div_le_self _ _) h)]

theorem cat_div {a x : Nat} (ha : a < 256) : (a + 256 * x) / 256 = x := by omega
theorem cat_mod {a x : Nat} (ha : a < 256) : (a + 256 * x) % 256 = a := by omega
theorem div_step (n c : Nat) : n / (256 * c) = n / 256 / c := (Nat.div_div_eq_div_mul n 256 c).symm

section
variable {b0 b1 b2 b3 b4 b5 b6 b7 : Nat}
theorem cat8_0 (h0 : b0 < 256) : cat8 b0 b1 b2 b3 b4 b5 b6 b7 % 256 = b0 := cat_mod h0
theorem cat8_1 (h0 : b0 < 256) (h1 : b1 < 256) : cat8 b0 b1 b2 b3 b4 b5 b6 b7 / 256 % 256 = b1 := by
  unfold cat8
  rw [cat_div h0, cat_mod h1]
theorem cat8_2 (h0 : b0 < 256) (h1 : b1 < 256) (h2 : b2 < 256) : cat8 b0 b1 b2 b3 b4 b5 b6 b7 / 65536 % 256 = b2 := by
  unfold cat8
  rw [show 65536 = 256 * 256 from rfl, div_step, cat_div h0, cat_div h1, cat_mod h2]
theorem cat8_3 (h0 : b0 < 256) (h1 : b1 < 256) (h2 : b2 < 256) (h3 : b3 < 256) : cat8 b0 b1 b2 b3 b4 b5 b6 b7 / 16777216 % 256 = b3 := by
  unfold cat8
  rw [show 16777216 = 256 * (256 * 256) from rfl, div_step, div_step, cat_div h0, cat_div h1, cat_div h2, cat_mod h3]
theorem cat8_4 (h0 : b0 < 256) (h1 : b1 < 256) (h2 : b2 < 256) (h3 : b3 < 256) (h4 : b4 < 256) : cat8 b0 b1 b2 b3 b4 b5 b6 b7 / 4294967296 % 256 = b4 := by
  unfold cat8
  rw [show 4294967296 = 256 * (256 * (256 * 256)) from rfl, div_step, div_step, div_step, cat_div h0, cat_div h1, cat_div h2, cat_div h3, cat_mod h4]
theorem cat8_5 (h0 : b0 < 256) (h1 : b1 < 256) (h2 : b2 < 256) (h3 : b3 < 256) (h4 : b4 < 256) (h5 : b5 < 256) : cat8 b0 b1 b2 b3 b4 b5 b6 b7 / 1099511627776 % 256 = b5 := by
  unfold cat8
  rw [show 1099511627776 = 256 * (256 * (256 * (256 * 256))) from rfl, div_step, div_step, div_step, div_step, cat_div h0, cat_div h1, cat_div h2, cat_div h3, cat_div h4, cat_mod h5]
theorem cat8_6 (h0 : b0 < 256) (h1 : b1 < 256) (h2 : b2 < 256) (h3 : b3 < 256) (h4 : b4 < 256) (h5 : b5 < 256) (h6 : b6 < 256) : cat8 b0 b1 b2 b3 b4 b5 b6 b7 / 281474976710656 % 256 = b6 := by
  unfold cat8
  rw [show 281474976710656 = 256 * (256 * (256 * (256 * (256 * 256)))) from rfl, div_step, div_step, div_step, div_step, div_step, cat_div h0, cat_div h1, cat_div h2, cat_div h3, cat_div h4, cat_div h5, cat_mod h6]
end

/-- A word is its eight bytes. -/
theorem word_bytes (n : Nat) (h : n < 18446744073709551616) : ∃ b0 b1 b2 b3 b4 b5 b6 b7, b0 < 256 ∧ b1 < 256 ∧ b2 < 256 ∧ b3 < 256 ∧ b4 < 256 ∧ b5 < 256 ∧ b6 < 256 ∧ b7 < 256 ∧ n = cat8 b0 b1 b2 b3 b4 b5 b6 b7 := by
  have step : ∀ m k, m < 256 * k → ∃ a x, a < 256 ∧ x < k ∧ m = a + 256 * x := fun m k hm => ⟨m % 256, m / 256, Nat.mod_lt _ (by omega), by omega, by omega⟩
  obtain ⟨b0, x, h0, hx, rfl⟩ := step n 72057594037927936 (by omega)
  obtain ⟨b1, x, h1, hx, rfl⟩ := step x 281474976710656 (by omega)
  obtain ⟨b2, x, h2, hx, rfl⟩ := step x 1099511627776 (by omega)
  obtain ⟨b3, x, h3, hx, rfl⟩ := step x 4294967296 (by omega)
  obtain ⟨b4, x, h4, hx, rfl⟩ := step x 16777216 (by omega)
  obtain ⟨b5, x, h5, hx, rfl⟩ := step x 65536 (by omega)
  obtain ⟨b6, x, h6, hx, rfl⟩ := step x 256 (by omega)
  obtain ⟨b7, x, h7, hx, rfl⟩ := step x 1 (by omega)
  obtain rfl : x = 0 := by omega
  exact ⟨b0, b1, b2, b3, b4, b5, b6, b7, h0, h1, h2, h3, h4, h5, h6, h7, rfl⟩

/-- The byte at place k, as a number. -/
def byt (b0 b1 b2 b3 b4 b5 b6 : Nat) : Nat → Int
  | 0 => (b0 : Int)
  | 1 => (b1 : Int)
  | 2 => (b2 : Int)
  | 3 => (b3 : Int)
  | 4 => (b4 : Int)
  | 5 => (b5 : Int)
  | _ => (b6 : Int)

theorem byt_bd {b0 b1 b2 b3 b4 b5 b6 : Nat} (h0 : b0 < 256) (h1 : b1 < 256) (h2 : b2 < 256) (h3 : b3 < 256) (h4 : b4 < 256) (h5 : b5 < 256) (h6 : b6 < 256) (k : Nat) : 0 ≤ byt b0 b1 b2 b3 b4 b5 b6 k ∧ byt b0 b1 b2 b3 b4 b5 b6 k ≤ 255 := by
  unfold byt
  split <;> omega

theorem byte_byt {b0 b1 b2 b3 b4 b5 b6 b7 : Nat} (h0 : b0 < 256) (h1 : b1 < 256) (h2 : b2 < 256) (h3 : b3 < 256) (h4 : b4 < 256) (h5 : b5 < 256) (h6 : b6 < 256) (h7 : b7 < 256) (k : Nat) (hk : k < 7) :
    bits .and .u64 (((cat8 b0 b1 b2 b3 b4 b5 b6 b7 : Nat) : Int) / 2 ^ (8 * (k : Int)).toNat) 255 = byt b0 b1 b2 b3 b4 b5 b6 k := by
  have hl := cat8_lt h0 h1 h2 h3 h4 h5 h6 h7
  rcases (show k = 0 ∨ k = 1 ∨ k = 2 ∨ k = 3 ∨ k = 4 ∨ k = 5 ∨ k = 6 by omega) with rfl | rfl | rfl | rfl | rfl | rfl | rfl
  · rw [show (2 : Int) ^ (8 * ((0 : Nat) : Int)).toNat = ((1 : Nat) : Int) by decide, byte_at _ _ hl, Nat.div_one, cat8_0 h0]; rfl
  · rw [show (2 : Int) ^ (8 * ((1 : Nat) : Int)).toNat = ((256 : Nat) : Int) by decide, byte_at _ _ hl, cat8_1 h0 h1]; rfl
  · rw [show (2 : Int) ^ (8 * ((2 : Nat) : Int)).toNat = ((65536 : Nat) : Int) by decide, byte_at _ _ hl, cat8_2 h0 h1 h2]; rfl
  · rw [show (2 : Int) ^ (8 * ((3 : Nat) : Int)).toNat = ((16777216 : Nat) : Int) by decide, byte_at _ _ hl, cat8_3 h0 h1 h2 h3]; rfl
  · rw [show (2 : Int) ^ (8 * ((4 : Nat) : Int)).toNat = ((4294967296 : Nat) : Int) by decide, byte_at _ _ hl, cat8_4 h0 h1 h2 h3 h4]; rfl
  · rw [show (2 : Int) ^ (8 * ((5 : Nat) : Int)).toNat = ((1099511627776 : Nat) : Int) by decide, byte_at _ _ hl, cat8_5 h0 h1 h2 h3 h4 h5]; rfl
  · rw [show (2 : Int) ^ (8 * ((6 : Nat) : Int)).toNat = ((281474976710656 : Nat) : Int) by decide, byte_at _ _ hl, cat8_6 h0 h1 h2 h3 h4 h5 h6]; rfl

end Go.Proofs.Qxb6000488a
