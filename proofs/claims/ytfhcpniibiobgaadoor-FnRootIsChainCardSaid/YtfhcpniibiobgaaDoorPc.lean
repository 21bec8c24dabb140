/- The count of the one bits. -/
import Derived.Test.YtfhcpniibiobgaaDoorL
namespace Go.Proofs.YtfhcpniibiobgaaDoor.M
open Go

/-- The one bits among the lowest f. -/
def pc : Nat → Nat → Nat
  | 0, _ => 0
  | f + 1, x => x % 2 + pc f (x / 2)

theorem pc_add : ∀ (a c x : Nat), pc (a + c) x = pc a x + pc c (x / 2 ^ a)
  | 0, c, x => by simp [pc]
  | a + 1, c, x => by
    rw [show a + 1 + c = (a + c) + 1 by omega]
    show x % 2 + pc (a + c) (x / 2) = x % 2 + pc a (x / 2) + pc c (x / 2 ^ (a + 1))
    rw [pc_add a c (x / 2), Nat.div_div_eq_div_mul, show 2 * 2 ^ a = 2 ^ (a + 1) by rw [Nat.pow_succ]; omega]
    omega
theorem pc_mod : ∀ (a x : Nat), pc a (x % 2 ^ a) = pc a x
  | 0, _ => rfl
  | a + 1, x => by
    show x % 2 ^ (a + 1) % 2 + pc a (x % 2 ^ (a + 1) / 2) = x % 2 + pc a (x / 2)
    have h1 : x % 2 ^ (a + 1) % 2 = x % 2 := Nat.mod_mod_of_dvd _ ⟨2 ^ a, by rw [Nat.pow_succ]; omega⟩
    have h2 : x % 2 ^ (a + 1) / 2 = x / 2 % 2 ^ a := by
      rw [Nat.pow_succ, Nat.mul_comm, Nat.mod_mul_right_div_self]
    rw [h1, h2, pc_mod a]
theorem pc_zero : ∀ f : Nat, pc f 0 = 0
  | 0 => rfl
  | f + 1 => by show 0 % 2 + pc f (0 / 2) = 0; rw [Nat.zero_div, pc_zero f]

/-- And of two bytewise. -/
theorem and_byte (x y : Nat) : x &&& y = 256 * ((x / 256) &&& (y / 256)) + ((x % 256) &&& (y % 256)) := by
  have h1 : (x &&& y) % 2 ^ 8 = (x % 2 ^ 8) &&& (y % 2 ^ 8) := Nat.and_mod_two_pow
  have h2 : (x &&& y) / 2 ^ 8 = (x / 2 ^ 8) &&& (y / 2 ^ 8) := Nat.and_div_two_pow
  have h3 := Nat.div_add_mod (x &&& y) (2 ^ 8)
  rw [h1, h2] at h3
  exact h3.symm

/-- Three rounds of the count, with masks n bytes long. -/
def y1 (m x : Nat) : Nat := ((x / 2) &&& m) + (x &&& m)
def y2 (m x : Nat) : Nat := ((x / 4) &&& m) + (x &&& m)
def y3 (m x : Nat) : Nat := (x / 16 + x) &&& m

theorem b1 : ∀ b : Fin 256, y1 85 b.val ≤ 170 ∧ ∀ o : Fin 2, ((b.val / 2 + 128 * o.val) &&& 85) = ((b.val / 2) &&& 85) := by decide +kernel
theorem b2 : ∀ b : Fin 171, y2 51 b.val ≤ 102 ∧ ∀ o : Fin 4, ((b.val / 4 + 64 * o.val) &&& 51) = ((b.val / 4) &&& 51) := by decide +kernel
theorem b3 : ∀ b : Fin 256, y3 15 (y2 51 (y1 85 b.val)) = pc 8 b.val ∧ pc 8 b.val ≤ 8 ∧ y2 51 (y1 85 b.val) ≤ 68 ∧ y2 51 (y1 85 b.val) % 16 ≤ 4 := by decide +kernel
theorem b4 : ∀ b : Fin 69, ∀ o : Fin 5, ((b.val / 16 + 16 * o.val + b.val) &&& 15) = y3 15 b.val := by decide +kernel

/-- A mask of n bytes. -/
def mk (c : Nat) : Nat → Nat
  | 0 => 0
  | n + 1 => 256 * mk c n + c

theorem y1_byte (m Q B : Nat) (hB : B < 256) : y1 (256 * m + 85) (256 * Q + B) = 256 * y1 m Q + y1 85 B ∧ y1 85 B ≤ 170 := by
  have h := b1 ⟨B, hB⟩
  have ho := h.2 ⟨Q % 2, by omega⟩
  simp only at h ho
  refine ⟨?_, h.1⟩
  unfold y1 at *
  rw [and_byte ((256 * Q + B) / 2), and_byte (256 * Q + B)]
  rw [show (256 * Q + B) / 2 / 256 = Q / 2 by omega, show (256 * Q + B) / 2 % 256 = B / 2 + 128 * (Q % 2) by omega, show (256 * m + 85) / 256 = m by omega, show (256 * m + 85) % 256 = 85 by omega, show (256 * Q + B) / 256 = Q by omega, show (256 * Q + B) % 256 = B by omega, ho]
  omega
theorem y2_byte (m Q B : Nat) (hB : B < 171) : y2 (256 * m + 51) (256 * Q + B) = 256 * y2 m Q + y2 51 B ∧ y2 51 B ≤ 102 := by
  have h := b2 ⟨B, hB⟩
  have ho := h.2 ⟨Q % 4, by omega⟩
  simp only at h ho
  refine ⟨?_, h.1⟩
  unfold y2 at *
  rw [and_byte ((256 * Q + B) / 4), and_byte (256 * Q + B)]
  rw [show (256 * Q + B) / 4 / 256 = Q / 4 by omega, show (256 * Q + B) / 4 % 256 = B / 4 + 64 * (Q % 4) by omega, show (256 * m + 51) / 256 = m by omega, show (256 * m + 51) % 256 = 51 by omega, show (256 * Q + B) / 256 = Q by omega, show (256 * Q + B) % 256 = B by omega, ho]
  omega
theorem y3_byte (m Q B : Nat) (hB : B < 69) (hQ : Q % 16 ≤ 4) : y3 (256 * m + 15) (256 * Q + B) = 256 * y3 m Q + y3 15 B := by
  have ho := b4 ⟨B, hB⟩ ⟨Q % 16, by omega⟩
  simp only at ho
  unfold y3 at *
  rw [and_byte ((256 * Q + B) / 16 + (256 * Q + B))]
  rw [show ((256 * Q + B) / 16 + (256 * Q + B)) / 256 = Q / 16 + Q by omega, show ((256 * Q + B) / 16 + (256 * Q + B)) % 256 = B / 16 + 16 * (Q % 16) + B by omega, show (256 * m + 15) / 256 = m by omega, show (256 * m + 15) % 256 = 15 by omega, ho]

/-- The counts of n bytes, side by side. -/
def S : Nat → Nat → Nat
  | 0, _ => 0
  | n + 1, X => 256 * S n (X / 256) + pc 8 (X % 256)

theorem three : ∀ (n X : Nat), y2 (mk 51 n) (y1 (mk 85 n) X) % 16 ≤ 4 ∧ y3 (mk 15 n) (y2 (mk 51 n) (y1 (mk 85 n) X)) = S n X
  | 0, X => by simp [mk, y1, y2, y3, S]
  | n + 1, X => by
    obtain ⟨i1, i2⟩ := three n (X / 256)
    have hB : X % 256 < 256 := by omega
    have h3 := b3 ⟨X % 256, hB⟩
    simp only at h3
    obtain ⟨p1, p2⟩ := y1_byte (mk 85 n) (X / 256) (X % 256) hB
    have q := y2_byte (mk 51 n) (y1 (mk 85 n) (X / 256)) (y1 85 (X % 256)) (by omega)
    have hX : X = 256 * (X / 256) + X % 256 := by omega
    have r := y3_byte (mk 15 n) (y2 (mk 51 n) (y1 (mk 85 n) (X / 256))) (y2 51 (y1 85 (X % 256))) (by omega) i1
    have e : y2 (mk 51 (n + 1)) (y1 (mk 85 (n + 1)) X) = 256 * y2 (mk 51 n) (y1 (mk 85 n) (X / 256)) + y2 51 (y1 85 (X % 256)) := by
      show y2 (256 * mk 51 n + 51) (y1 (256 * mk 85 n + 85) X) = _
      rw [← q.1, ← p1, ← hX]
    rw [e]
    refine ⟨by omega, ?_⟩
    show y3 (256 * mk 15 n + 15) _ = 256 * S n (X / 256) + pc 8 (X % 256)
    rw [r, i2, h3.1]

theorem pc8_le (b : Nat) (h : b < 256) : pc 8 b ≤ 8 := (b3 ⟨b, h⟩).2.1

/-- The whole count of 64 bits. -/
theorem swar (x z u w : Nat) (_hx : x < 18446744073709551616) (hz : z = y3 1085102592571150095 (y2 3689348814741910323 (y1 6148914691236517205 x)))
    (hu : u = z + z / 256) (hw : w = u + u / 65536) : (w + w / 4294967296) % 128 = pc 64 x := by
  have h := (three 8 x).2
  have e1 : mk 15 8 = 1085102592571150095 := by decide
  have e2 : mk 51 8 = 3689348814741910323 := by decide
  have e3 : mk 85 8 = 6148914691236517205 := by decide
  rw [e1, e2, e3, ← hz] at h
  simp only [S] at h
  have p : pc 64 x = pc 8 (x % 256) + (pc 8 (x / 256 % 256) + (pc 8 (x / 256 / 256 % 256) + (pc 8 (x / 256 / 256 / 256 % 256) + (pc 8 (x / 256 / 256 / 256 / 256 % 256) + (pc 8 (x / 256 / 256 / 256 / 256 / 256 % 256) + (pc 8 (x / 256 / 256 / 256 / 256 / 256 / 256 % 256) + pc 8 (x / 256 / 256 / 256 / 256 / 256 / 256 / 256 % 256))))))) := by
    have hb : ∀ y, pc 8 (y % 256) = pc 8 y := fun y => pc_mod 8 y
    have ha : ∀ c y, pc (8 + c) y = pc 8 y + pc c (y / 256) := fun c y => pc_add 8 c y
    rw [hb, hb, hb, hb, hb, hb, hb, hb]
    rw [show (64 : Nat) = 8 + (8 + (8 + (8 + (8 + (8 + (8 + 8)))))) from rfl, ha, ha, ha, ha, ha, ha, ha]
  rw [p]
  have c0 := pc8_le (x % 256) (by omega)
  have c1 := pc8_le (x / 256 % 256) (by omega)
  have c2 := pc8_le (x / 256 / 256 % 256) (by omega)
  have c3 := pc8_le (x / 256 / 256 / 256 % 256) (by omega)
  have c4 := pc8_le (x / 256 / 256 / 256 / 256 % 256) (by omega)
  have c5 := pc8_le (x / 256 / 256 / 256 / 256 / 256 % 256) (by omega)
  have c6 := pc8_le (x / 256 / 256 / 256 / 256 / 256 / 256 % 256) (by omega)
  have c7 := pc8_le (x / 256 / 256 / 256 / 256 / 256 / 256 / 256 % 256) (by omega)
  generalize pc 8 (x % 256) = d0 at *
  generalize pc 8 (x / 256 % 256) = d1 at *
  generalize pc 8 (x / 256 / 256 % 256) = d2 at *
  generalize pc 8 (x / 256 / 256 / 256 % 256) = d3 at *
  generalize pc 8 (x / 256 / 256 / 256 / 256 % 256) = d4 at *
  generalize pc 8 (x / 256 / 256 / 256 / 256 / 256 % 256) = d5 at *
  generalize pc 8 (x / 256 / 256 / 256 / 256 / 256 / 256 % 256) = d6 at *
  generalize pc 8 (x / 256 / 256 / 256 / 256 / 256 / 256 / 256 % 256) = d7 at *
  clear hz p e1 e2 e3
  have z1 : z / 256 = d1 + 256 * (d2 + 256 * (d3 + 256 * (d4 + 256 * (d5 + 256 * (d6 + 256 * d7))))) := by omega
  have u1 : u / 65536 = (d2 + d3) + 256 * ((d3 + d4) + 256 * ((d4 + d5) + 256 * ((d5 + d6) + 256 * ((d6 + d7) + 256 * d7)))) := by omega
  have w1 : w / 4294967296 = (d4 + d5 + d6 + d7) + 256 * ((d5 + d6 + d7) + 256 * ((d6 + d7) + 256 * d7)) := by omega
  omega

/-- Counts of the pieces. -/
theorem pc_top (f c r : Nat) (hc : c < f) (hr : r < 2 ^ c) : pc f (2 ^ c + r) = 1 + pc f r := by
  obtain ⟨g, rfl⟩ : ∃ g, f = c + (g + 1) := ⟨f - c - 1, by omega⟩
  rw [pc_add c (g + 1) (2 ^ c + r), pc_add c (g + 1) r, ← pc_mod c (2 ^ c + r), Nat.add_mod_left, pc_mod, Nat.div_eq_of_lt hr]
  have : (2 ^ c + r) / 2 ^ c = 1 := by rw [Nat.add_div_left _ (Nat.two_pow_pos c), Nat.div_eq_of_lt hr]
  rw [this, pc_zero]
  show pc c r + (1 % 2 + pc g (1 / 2)) = _
  rw [show 1 / 2 = 0 from rfl, pc_zero]
  omega
theorem pc_low (f c m : Nat) (hc : c < f) : pc f (2 ^ c * (2 * m + 1)) = 1 + pc f (2 ^ c * (2 * m)) := by
  obtain ⟨g, rfl⟩ : ∃ g, f = c + (g + 1) := ⟨f - c - 1, by omega⟩
  rw [pc_add c (g + 1) (2 ^ c * (2 * m + 1)), pc_add c (g + 1) (2 ^ c * (2 * m)), ← pc_mod c (2 ^ c * (2 * m + 1)), Nat.mul_mod_right, ← pc_mod c (2 ^ c * (2 * m)), Nat.mul_mod_right, Nat.mul_div_cancel_left _ (Nat.two_pow_pos c), Nat.mul_div_cancel_left _ (Nat.two_pow_pos c)]
  show pc c 0 + ((2 * m + 1) % 2 + pc g ((2 * m + 1) / 2)) = 1 + (pc c 0 + ((2 * m) % 2 + pc g ((2 * m) / 2)))
  rw [show (2 * m + 1) / 2 = m by omega, show 2 * m / 2 = m by omega]
  omega

theorem leftN_pc (M d : Nat) (hd : d ≤ 64) (hM : 2 ^ d ∣ M) : ∀ (f L : Nat), f ≤ 64 → L < 2 ^ d → L ≤ M → 2 ^ (64 - f) ∣ L → (leftN f M L).length = pc 64 L
  | 0, L, _, hL, _, hdv => by
    have h0 : L = 0 := by
      have h1 : L < 2 ^ 64 := Nat.lt_of_lt_of_le hL (Nat.pow_le_pow_right (by omega) hd)
      exact Nat.eq_zero_of_dvd_of_lt hdv h1
    subst h0
    rfl
  | f + 1, L, hf, hL, hLM, hdv => by
    by_cases h0 : L = 0
    · subst h0
      rw [leftN, if_pos rfl, pc_zero]; rfl
    have hs := lstep f d M L hf h0 hL hd hM hLM hdv
    have hL64 : L < 2 ^ 64 := Nat.lt_of_lt_of_le hL (Nat.pow_le_pow_right (by omega) hd)
    obtain ⟨m, h1, _⟩ := ctz_spec L h0 hL64
    rw [leftN, if_neg h0, List.length_cons]
    generalize Lib.ctz 64 L = c at *
    obtain ⟨c63, cd, fc, le, dvd, _, _⟩ := hs
    rw [leftN_pc M d hd hM f (L - 2 ^ c) (by omega) (by omega) (by omega) (Nat.dvd_trans (Nat.pow_dvd_pow 2 (by omega)) dvd)]
    have e : L - 2 ^ c = 2 ^ c * (2 * m) := by
      rw [h1, Nat.mul_add, Nat.mul_one]; omega
    rw [e, h1, pc_low 64 c m (by omega)]
    omega

theorem rightN_pc (e : Nat) : ∀ (f R : Nat), f ≤ 64 → R < 2 ^ f → (rightN f e R).length = pc 64 R
  | 0, R, _, hR => by
    have h0 : R = 0 := by simpa using hR
    subst h0
    rfl
  | f + 1, R, hf, hR => by
    by_cases h0 : R = 0
    · subst h0
      rw [rightN, if_pos rfl, pc_zero]; rfl
    have hR64 : R < 2 ^ 64 := Nat.lt_of_lt_of_le hR (Nat.pow_le_pow_right (by omega) hf)
    obtain ⟨h1, h2, h3, h4⟩ := len_spec R h0 hR64
    rw [rightN, if_neg h0, List.length_cons]
    obtain ⟨c, hc⟩ : ∃ c, Lib.bitLen R = c + 1 := ⟨Lib.bitLen R - 1, by omega⟩
    rw [hc] at h3 h4 ⊢
    rw [Nat.add_sub_cancel] at h3 ⊢
    have hcf : c ≤ f := by
      have : 2 ^ c < 2 ^ (f + 1) := Nat.lt_of_le_of_lt h3 hR
      have := (Nat.pow_lt_pow_iff_right (a := 2) (by omega)).1 this
      omega
    have hlt : R - 2 ^ c < 2 ^ c := by rw [Nat.pow_succ] at h4; omega
    have hlf : R - 2 ^ c < 2 ^ f := Nat.lt_of_lt_of_le hlt (Nat.pow_le_pow_right (by omega) hcf)
    rw [rightN_pc e f (R - 2 ^ c) (by omega) hlf]
    have h := pc_top 64 c (R - 2 ^ c) (by omega) hlt
    rw [show 2 ^ c + (R - 2 ^ c) = R by omega] at h
    rw [h]
    omega

end Go.Proofs.YtfhcpniibiobgaaDoor.M
