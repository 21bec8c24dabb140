/- Several texts, joined. -/
import Derived.Lib.ItoaNum
import Derived.Lib.TrailingZeros
namespace Go.Proofs.YtfhcpniibiobgaaDoor.M
open Go
theorem len_spec (z : Nat) (h0 : z ≠ 0) (h : z < 2 ^ 64) : 1 ≤ Lib.bitLen z ∧ Lib.bitLen z ≤ 64 ∧ 2 ^ (Lib.bitLen z - 1) ≤ z ∧ z < 2 ^ Lib.bitLen z := by
  have := Lib.bitLenAux_bounds 64 z h h0
  exact ⟨this.1, Lib.bitLen_le z 64 (by omega) h, this.2.1, this.2.2⟩
theorem xor_one_cases {p q : Nat} (h : p ^^^ q = 1) (hle : p ≤ q) : q = p + 1 ∧ p % 2 = 0 := by
  have h1 : q = p ^^^ 1 := by rw [← h, ← Nat.xor_assoc, Nat.xor_self, Nat.zero_xor]
  have h2 : q / 2 = p / 2 := by
    rw [h1, Nat.xor_div_two]; simp
  have h3 : (p ^^^ q) % 2 = 1 := by rw [h]
  rw [Nat.xor_mod_two_eq_one] at h3
  omega
theorem cut (b e : Nat) (hb : 1 ≤ b) (hbe : b ≤ e) (he : e < 2 ^ 64) :
    ∃ d q : Nat, Lib.bitLen ((b - 1) ^^^ e) = d + 1 ∧ d ≤ 63 ∧ (b - 1) ^^^ e < 2 ^ 64 ∧ q % 2 = 1 ∧ e = 2 ^ d * q + e % 2 ^ d ∧ b + (2 ^ d - 1 - (b - 1) % 2 ^ d) = 2 ^ d * q ∧ (b - 1) % 2 ^ d < 2 ^ d ∧ e % 2 ^ d < 2 ^ d := by
  have hz0 : (b - 1) ^^^ e ≠ 0 := by
    intro h0
    have h1 : (b - 1) = e := by
      have := congrArg (fun t => (b - 1) ^^^ t) h0
      simpa [← Nat.xor_assoc] using this.symm
    omega
  have hzl : (b - 1) ^^^ e < 2 ^ 64 := Nat.xor_lt_two_pow (by omega) he
  obtain ⟨k1, k2, k3, k4⟩ := len_spec _ hz0 hzl
  obtain ⟨d, hd⟩ : ∃ d, Lib.bitLen ((b - 1) ^^^ e) = d + 1 := ⟨Lib.bitLen ((b - 1) ^^^ e) - 1, by omega⟩
  rw [hd] at k1 k2 k3 k4
  have hD : 0 < 2 ^ d := Nat.two_pow_pos d
  have hq1 : ((b - 1) ^^^ e) / 2 ^ d = 1 := by
    rw [Nat.div_eq_iff hD]
    rw [Nat.pow_succ] at k4
    rw [Nat.add_sub_cancel] at k3
    omega
  have hx : ((b - 1) / 2 ^ d) ^^^ (e / 2 ^ d) = 1 := by
    rw [← Nat.shiftRight_eq_div_pow, ← Nat.shiftRight_eq_div_pow, ← Nat.shiftRight_xor_distrib, Nat.shiftRight_eq_div_pow]
    exact hq1
  have hle : (b - 1) / 2 ^ d ≤ e / 2 ^ d := Nat.div_le_div_right (by omega)
  obtain ⟨hq, hp⟩ := xor_one_cases hx hle
  have e1 := Nat.div_add_mod (b - 1) (2 ^ d)
  have e2 := Nat.div_add_mod e (2 ^ d)
  have m1 := Nat.mod_lt (b - 1) hD
  have m2 := Nat.mod_lt e hD
  refine ⟨d, e / 2 ^ d, hd, by omega, hzl, by omega, e2.symm, ?_, m1, m2⟩
  rw [hq, Nat.mul_add, Nat.mul_one]
  generalize 2 ^ d * ((b - 1) / 2 ^ d) = u at *
  generalize (b - 1) % 2 ^ d = v at *
  generalize 2 ^ d = D at *
  omega
end Go.Proofs.YtfhcpniibiobgaaDoor.M
namespace Go.Proofs.YtfhcpniibiobgaaDoor.M
open Go
def leftN : Nat → Nat → Nat → List (Nat × Nat)
  | 0, _, _ => []
  | f + 1, M, L => if L = 0 then [] else (Lib.ctz 64 L, (M - L) / 2 ^ Lib.ctz 64 L) :: leftN f M (L - 2 ^ Lib.ctz 64 L)
def rightN : Nat → Nat → Nat → List (Nat × Nat)
  | 0, _, _ => []
  | f + 1, e, R => if R = 0 then [] else (Lib.bitLen R - 1, (e - R) / 2 ^ (Lib.bitLen R - 1)) :: rightN f e (R - 2 ^ (Lib.bitLen R - 1))
def nodesN (M e L R : Nat) : List (Nat × Nat) := leftN 64 M L ++ rightN 64 e R
theorem ctz_spec (L : Nat) (h0 : L ≠ 0) (h : L < 2 ^ 64) : ∃ m, L = 2 ^ Lib.ctz 64 L * (2 * m + 1) ∧ Lib.ctz 64 L < 64 := by
  obtain ⟨m, h1, h2⟩ := Lib.ctzFrom_spec 64 L (by omega) h
  have : Lib.ctz 64 L = Lib.ctzFrom 64 L := by unfold Lib.ctz; rw [if_neg h0]
  rw [this]
  exact ⟨m, h1, h2⟩
theorem pow_dvd_le {a b m : Nat} (h : 2 ^ a ∣ 2 ^ b * (2 * m + 1)) : a ≤ b := by
  by_cases hab : a ≤ b
  · exact hab
  exfalso
  obtain ⟨c, rfl⟩ : ∃ c, a = b + 1 + c := ⟨a - b - 1, by omega⟩
  rw [Nat.pow_add, Nat.pow_add, Nat.mul_assoc] at h
  have h2 := Nat.dvd_of_mul_dvd_mul_left (Nat.two_pow_pos b) h
  have h3 : 2 ∣ 2 * m + 1 := Nat.dvd_trans ⟨2 ^ c, by rw [Nat.pow_one]⟩ h2
  omega
structure LStep (f d M L c : Nat) : Prop where
  c63 : c ≤ 63
  cd : c < d
  fc : 64 - (f + 1) ≤ c
  le : 2 ^ c ≤ L
  dvd : 2 ^ (c + 1) ∣ L - 2 ^ c
  odd : ∃ m, M - L = 2 ^ c * (2 * m + 1)
  low : 2 ^ (c + 1) ∣ M - L + 2 ^ c
theorem lstep (f d M L : Nat) (_hf : f + 1 ≤ 64) (h0 : L ≠ 0) (hL : L < 2 ^ d) (hd : d ≤ 64) (hM : 2 ^ d ∣ M) (hLM : L ≤ M) (hdv : 2 ^ (64 - (f + 1)) ∣ L) : LStep f d M L (Lib.ctz 64 L) := by
  have hL64 : L < 2 ^ 64 := Nat.lt_of_lt_of_le hL (Nat.pow_le_pow_right (by omega) hd)
  obtain ⟨m, h1, h2⟩ := ctz_spec L h0 hL64
  generalize Lib.ctz 64 L = c at *
  have hle : 2 ^ c ≤ L := by rw [h1]; exact Nat.le_mul_of_pos_right _ (by omega)
  have hcd : c < d := by
    have : 2 ^ c < 2 ^ d := Nat.lt_of_le_of_lt hle hL
    exact (Nat.pow_lt_pow_iff_right (by omega)).1 this
  have hfc : 64 - (f + 1) ≤ c := by rw [h1] at hdv; exact pow_dvd_le hdv
  obtain ⟨u, hu⟩ := hM
  obtain ⟨e, he⟩ : ∃ e, d = c + 1 + e := ⟨d - c - 1, by omega⟩
  have hM2 : M = 2 ^ c * (2 * (2 ^ e * u)) := by rw [hu, he, Nat.pow_add, Nat.pow_add, Nat.pow_one, Nat.mul_assoc, Nat.mul_assoc]
  have hsub : L - 2 ^ c = 2 ^ (c + 1) * m := by
    rw [Nat.pow_succ, Nat.mul_assoc]
    rw [Nat.mul_add, Nat.mul_one] at h1
    omega
  have hlm : m < 2 ^ e * u := by
    rw [h1, hM2] at hLM
    have := Nat.le_of_mul_le_mul_left hLM (Nat.two_pow_pos c)
    omega
  have hodd : M - L = 2 ^ c * (2 * (2 ^ e * u - m - 1) + 1) := by
    rw [h1, hM2, ← Nat.mul_sub]
    congr 1
    omega
  refine ⟨by omega, hcd, hfc, hle, ?_, ⟨_, hodd⟩, ?_⟩
  · rw [hsub]
    exact Nat.dvd_mul_right _ _
  · rw [hodd]
    refine ⟨2 ^ e * u - m, ?_⟩
    rw [Nat.pow_succ, Nat.mul_assoc, ← Nat.mul_succ]
    congr 1
    omega
structure RStep (f e R c : Nat) : Prop where
  c63 : c ≤ 63
  cf : c ≤ f
  le : 2 ^ c ≤ R
  lt : R < 2 ^ (c + 1)
  rest : R - 2 ^ c < 2 ^ c
  even : ∃ m, e - R = 2 ^ c * (2 * m)
  dvd : 2 ^ c ∣ e - (R - 2 ^ c)
theorem rstep (f e R : Nat) (hf : f + 1 ≤ 64) (h0 : R ≠ 0) (hR : R < 2 ^ (f + 1)) (he : R ≤ e) (hd : 2 ^ (f + 1) ∣ e - R) : RStep f e R (Lib.bitLen R - 1) := by
  have hR64 : R < 2 ^ 64 := Nat.lt_of_lt_of_le hR (Nat.pow_le_pow_right (by omega) hf)
  obtain ⟨h1, h2, h3, h4⟩ := len_spec R h0 hR64
  obtain ⟨c, hc⟩ : ∃ c, Lib.bitLen R = c + 1 := ⟨Lib.bitLen R - 1, by omega⟩
  rw [hc] at h3 h4 ⊢
  rw [Nat.add_sub_cancel] at h3 ⊢
  have hcf : c ≤ f := by
    have : 2 ^ c < 2 ^ (f + 1) := Nat.lt_of_le_of_lt h3 hR
    have := (Nat.pow_lt_pow_iff_right (a := 2) (by omega)).1 this
    omega
  have hrest : R - 2 ^ c < 2 ^ c := by rw [Nat.pow_succ] at h4; omega
  obtain ⟨u, hu⟩ := hd
  obtain ⟨g, rfl⟩ : ∃ g, f = c + g := ⟨f - c, by omega⟩
  have hev : e - R = 2 ^ c * (2 * (2 ^ g * u)) := by
    rw [hu, show c + g + 1 = c + 1 + g by omega, Nat.pow_add, Nat.pow_succ, Nat.mul_assoc, Nat.mul_assoc]
  refine ⟨by omega, hcf, h3, h4, hrest, ⟨_, hev⟩, ⟨2 * (2 ^ g * u) + 1, ?_⟩⟩
  rw [Nat.mul_succ, ← hev]
  omega
theorem rightN_fuel : ∀ (f g e R : Nat), f ≤ g → g ≤ 64 → R < 2 ^ f → rightN g e R = rightN f e R
  | 0, g, e, R, _, _, hR => by
    have : R = 0 := by simpa using hR
    subst this
    cases g <;> simp [rightN]
  | f + 1, g, e, R, hfg, hg, hR => by
    obtain ⟨g, rfl⟩ : ∃ h, g = h + 1 := ⟨g - 1, by omega⟩
    unfold rightN
    by_cases h0 : R = 0
    · rw [if_pos h0, if_pos h0]
    rw [if_neg h0, if_neg h0]
    congr 1
    have hR64 : R < 2 ^ 64 := Nat.lt_of_lt_of_le hR (Nat.pow_le_pow_right (by omega) (by omega))
    obtain ⟨h1, h2, h3, h4⟩ := len_spec R h0 hR64
    obtain ⟨c, hc⟩ : ∃ c, Lib.bitLen R = c + 1 := ⟨Lib.bitLen R - 1, by omega⟩
    rw [hc] at h3 h4 ⊢
    rw [Nat.add_sub_cancel] at h3 ⊢
    have hcf : c ≤ f := by
      have : 2 ^ c < 2 ^ (f + 1) := Nat.lt_of_le_of_lt h3 hR
      have := (Nat.pow_lt_pow_iff_right (a := 2) (by omega)).1 this
      omega
    have hlt : R - 2 ^ c < 2 ^ f := Nat.lt_of_lt_of_le (show R - 2 ^ c < 2 ^ c by rw [Nat.pow_succ] at h4; omega) (Nat.pow_le_pow_right (by omega) hcf)
    exact rightN_fuel f g e _ (by omega) (by omega) hlt
theorem leftN_len : ∀ (f M L : Nat), (leftN f M L).length ≤ f
  | 0, _, _ => by simp [leftN]
  | f + 1, M, L => by
    unfold leftN
    split
    · simp
    · simp only [List.length_cons]
      have := leftN_len f M (L - 2 ^ Lib.ctz 64 L)
      omega
theorem rightN_len : ∀ (f e R : Nat), (rightN f e R).length ≤ f
  | 0, _, _ => by simp [rightN]
  | f + 1, e, R => by
    unfold rightN
    split
    · simp
    · simp only [List.length_cons]
      have := rightN_len f e (R - 2 ^ (Lib.bitLen R - 1))
      omega
end Go.Proofs.YtfhcpniibiobgaaDoor.M
namespace Go.Proofs.YtfhcpniibiobgaaDoor.M
open Go
def pc : Nat → Nat → Nat
  | 0, _ => 0
  | f + 1, x => x % 2 + pc f (x / 2)
theorem pc_add : ∀ (a c x : Nat), pc (a + c) x = pc a x + pc c (x / 2 ^ a)
  | 0, c, x => by simp [pc]
  | a + 1, c, x => by
    rw [show a + 1 + c = (a + c) + 1 by omega]
    show x % 2 + pc (a + c) (x / 2) = x % 2 + pc a (x / 2) + pc c (x / 2 ^ (a + 1))
    rw [pc_add a c (x / 2), Nat.div_div_eq_div_mul, show 2 * 2 ^ a = 2 ^ (a + 1) by rw [Nat.pow_succ]; omega]
    omega
theorem pc_mod : ∀ (a x : Nat), pc a (x % 2 ^ a) = pc a x
  | 0, _ => rfl
  | a + 1, x => by
    show x % 2 ^ (a + 1) % 2 + pc a (x % 2 ^ (a + 1) / 2) = x % 2 + pc a (x / 2)
    have h1 : x % 2 ^ (a + 1) % 2 = x % 2 := Nat.mod_mod_of_dvd _ ⟨2 ^ a, by rw [Nat.pow_succ]; omega⟩
    have h2 : x % 2 ^ (a + 1) / 2 = x / 2 % 2 ^ a := by
      rw [Nat.pow_succ, Nat.mul_comm, Nat.mod_mul_right_div_self]
    rw [h1, h2, pc_mod a]
theorem pc_zero : ∀ f : Nat, pc f 0 = 0
  | 0 => rfl
  | f + 1 => by show 0 % 2 + pc f (0 / 2) = 0; rw [Nat.zero_div, pc_zero f]
theorem and_byte (x y : Nat) : x &&& y = 256 * ((x / 256) &&& (y / 256)) + ((x % 256) &&& (y % 256)) := by
  have h1 : (x &&& y) % 2 ^ 8 = (x % 2 ^ 8) &&& (y % 2 ^ 8) := Nat.and_mod_two_pow
  have h2 : (x &&& y) / 2 ^ 8 = (x / 2 ^ 8) &&& (y / 2 ^ 8) := Nat.and_div_two_pow
  have h3 := Nat.div_add_mod (x &&& y) (2 ^ 8)
  rw [h1, h2] at h3
  exact h3.symm
def y1 (m x : Nat) : Nat := ((x / 2) &&& m) + (x &&& m)
def y2 (m x : Nat) : Nat := ((x / 4) &&& m) + (x &&& m)
def y3 (m x : Nat) : Nat := (x / 16 + x) &&& m
theorem b1 : ∀ b : Fin 256, y1 85 b.val ≤ 170 ∧ ∀ o : Fin 2, ((b.val / 2 + 128 * o.val) &&& 85) = ((b.val / 2) &&& 85) := by decide +kernel
theorem b2 : ∀ b : Fin 171, y2 51 b.val ≤ 102 ∧ ∀ o : Fin 4, ((b.val / 4 + 64 * o.val) &&& 51) = ((b.val / 4) &&& 51) := by decide +kernel
theorem b3 : ∀ b : Fin 256, y3 15 (y2 51 (y1 85 b.val)) = pc 8 b.val ∧ pc 8 b.val ≤ 8 ∧ y2 51 (y1 85 b.val) ≤ 68 ∧ y2 51 (y1 85 b.val) % 16 ≤ 4 := by decide +kernel
theorem b4 : ∀ b : Fin 69, ∀ o : Fin 5, ((b.val / 16 + 16 * o.val + b.val) &&& 15) = y3 15 b.val := by decide +kernel
def mk (c : Nat) : Nat → Nat
  | 0 => 0
  | n + 1 => 256 * mk c n + c
theorem y1_byte (m Q B : Nat) (hB : B < 256) : y1 (256 * m + 85) (256 * Q + B) = 256 * y1 m Q + y1 85 B ∧ y1 85 B ≤ 170 := by
  have h := b1 ⟨B, hB⟩
  have ho := h.2 ⟨Q % 2, by omega⟩
  simp only at h ho
  refine ⟨?_, h.1⟩
  unfold y1 at *
  rw [and_byte ((256 * Q + B) / 2), and_byte (256 * Q + B)]
  rw [show (256 * Q + B) / 2 / 256 = Q / 2 by omega, show (256 * Q + B) / 2 % 256 = B / 2 + 128 * (Q % 2) by omega, show (256 * m + 85) / 256 = m by omega, show (256 * m + 85) % 256 = 85 by omega, show (256 * Q + B) / 256 = Q by omega, show (256 * Q + B) % 256 = B by omega, ho]
  omega
theorem y2_byte (m Q B : Nat) (hB : B < 171) : y2 (256 * m + 51) (256 * Q + B) = 256 * y2 m Q + y2 51 B ∧ y2 51 B ≤ 102 := by
  have h := b2 ⟨B, hB⟩
  have ho := h.2 ⟨Q % 4, by omega⟩
  simp only at h ho
  refine ⟨?_, h.1⟩
  unfold y2 at *
  rw [and_byte ((256 * Q + B) / 4), and_byte (256 * Q + B)]
  rw [show (256 * Q + B) / 4 / 256 = Q / 4 by omega, show (256 * Q + B) / 4 % 256 = B / 4 + 64 * (Q % 4) by omega, show (256 * m + 51) / 256 = m by omega, show (256 * m + 51) % 256 = 51 by omega, show (256 * Q + B) / 256 = Q by omega, show (256 * Q + B) % 256 = B by omega, ho]
  omega
theorem y3_byte (m Q B : Nat) (hB : B < 69) (hQ : Q % 16 ≤ 4) : y3 (256 * m + 15) (256 * Q + B) = 256 * y3 m Q + y3 15 B := by
  have ho := b4 ⟨B, hB⟩ ⟨Q % 16, by omega⟩
  simp only at ho
  unfold y3 at *
  rw [and_byte ((256 * Q + B) / 16 + (256 * Q + B))]
  rw [show ((256 * Q + B) / 16 + (256 * Q + B)) / 256 = Q / 16 + Q by omega, show ((256 * Q + B) / 16 + (256 * Q + B)) % 256 = B / 16 + 16 * (Q % 16) + B by omega, show (256 * m + 15) / 256 = m by omega, show (256 * m + 15) % 256 = 15 by omega, ho]
def S : Nat → Nat → Nat
  | 0, _ => 0
  | n + 1, X => 256 * S n (X / 256) + pc 8 (X % 256)
theorem three : ∀ (n X : Nat), y2 (mk 51 n) (y1 (mk 85 n) X) % 16 ≤ 4 ∧ y3 (mk 15 n) (y2 (mk 51 n) (y1 (mk 85 n) X)) = S n X
  | 0, X => by simp [mk, y1, y2, y3, S]
  | n + 1, X => by
    obtain ⟨i1, i2⟩ := three n (X / 256)
    have hB : X % 256 < 256 := by omega
    have h3 := b3 ⟨X % 256, hB⟩
    simp only at h3
    obtain ⟨p1, p2⟩ := y1_byte (mk 85 n) (X / 256) (X % 256) hB
    have q := y2_byte (mk 51 n) (y1 (mk 85 n) (X / 256)) (y1 85 (X % 256)) (by omega)
    have hX : X = 256 * (X / 256) + X % 256 := by omega
    have r := y3_byte (mk 15 n) (y2 (mk 51 n) (y1 (mk 85 n) (X / 256))) (y2 51 (y1 85 (X % 256))) (by omega) i1
    have e : y2 (mk 51 (n + 1)) (y1 (mk 85 (n + 1)) X) = 256 * y2 (mk 51 n) (y1 (mk 85 n) (X / 256)) + y2 51 (y1 85 (X % 256)) := by
      show y2 (256 * mk 51 n + 51) (y1 (256 * mk 85 n + 85) X) = _
      rw [← q.1, ← p1, ← hX]
    rw [e]
    refine ⟨by omega, ?_⟩
    show y3 (256 * mk 15 n + 15) _ = 256 * S n (X / 256) + pc 8 (X % 256)
    rw [r, i2, h3.1]
theorem pc8_le (b : Nat) (h : b < 256) : pc 8 b ≤ 8 := (b3 ⟨b, h⟩).2.1
theorem swar (x z u w : Nat) (_hx : x < 18446744073709551616) (hz : z = y3 1085102592571150095 (y2 3689348814741910323 (y1 6148914691236517205 x)))
    (hu : u = z + z / 256) (hw : w = u + u / 65536) : (w + w / 4294967296) % 128 = pc 64 x := by
  have h := (three 8 x).2
  have e1 : mk 15 8 = 1085102592571150095 := by decide
  have e2 : mk 51 8 = 3689348814741910323 := by decide
  have e3 : mk 85 8 = 6148914691236517205 := by decide
  rw [e1, e2, e3, ← hz] at h
  simp only [S] at h
  have p : pc 64 x = pc 8 (x % 256) + (pc 8 (x / 256 % 256) + (pc 8 (x / 256 / 256 % 256) + (pc 8 (x / 256 / 256 / 256 % 256) + (pc 8 (x / 256 / 256 / 256 / 256 % 256) + (pc 8 (x / 256 / 256 / 256 / 256 / 256 % 256) + (pc 8 (x / 256 / 256 / 256 / 256 / 256 / 256 % 256) + pc 8 (x / 256 / 256 / 256 / 256 / 256 / 256 / 256 % 256))))))) := by
    have hb : ∀ y, pc 8 (y % 256) = pc 8 y := fun y => pc_mod 8 y
    have ha : ∀ c y, pc (8 + c) y = pc 8 y + pc c (y / 256) := fun c y => pc_add 8 c y
    rw [hb, hb, hb, hb, hb, hb, hb, hb]
    rw [show (64 : Nat) = 8 + (8 + (8 + (8 + (8 + (8 + (8 + 8)))))) from rfl, ha, ha, ha, ha, ha, ha, ha]
  rw [p]
  have c0 := pc8_le (x % 256) (by omega)
  have c1 := pc8_le (x / 256 % 256) (by omega)
  have c2 := pc8_le (x / 256 / 256 % 256) (by omega)
  have c3 := pc8_le (x / 256 / 256 / 256 % 256) (by omega)
  have c4 := pc8_le (x / 256 / 256 / 256 / 256 % 256) (by omega)
  have c5 := pc8_le (x / 256 / 256 / 256 / 256 / 256 % 256) (by omega)
  have c6 := pc8_le (x / 256 / 256 / 256 / 256 / 256 / 256 % 256) (by omega)
  have c7 := pc8_le (x / 256 / 256 / 256 / 256 / 256 / 256 / 256 % 256) (by omega)
  generalize pc 8 (x % 256) = d0 at *
  generalize pc 8 (x / 256 % 256) = d1 at *
  generalize pc 8 (x / 256 / 256 % 256) = d2 at *
  generalize pc 8 (x / 256 / 256 / 256 % 256) = d3 at *
  generalize pc 8 (x / 256 / 256 / 256 / 256 % 256) = d4 at *
  generalize pc 8 (x / 256 / 256 / 256 / 256 / 256 % 256) = d5 at *
  generalize pc 8 (x / 256 / 256 / 256 / 256 / 256 / 256 % 256) = d6 at *
  generalize pc 8 (x / 256 / 256 / 256 / 256 / 256 / 256 / 256 % 256) = d7 at *
  clear hz p e1 e2 e3
  have z1 : z / 256 = d1 + 256 * (d2 + 256 * (d3 + 256 * (d4 + 256 * (d5 + 256 * (d6 + 256 * d7))))) := by omega
  have u1 : u / 65536 = (d2 + d3) + 256 * ((d3 + d4) + 256 * ((d4 + d5) + 256 * ((d5 + d6) + 256 * ((d6 + d7) + 256 * d7)))) := by omega
  have w1 : w / 4294967296 = (d4 + d5 + d6 + d7) + 256 * ((d5 + d6 + d7) + 256 * ((d6 + d7) + 256 * d7)) := by omega
  omega
theorem pc_top (f c r : Nat) (hc : c < f) (hr : r < 2 ^ c) : pc f (2 ^ c + r) = 1 + pc f r := by
  obtain ⟨g, rfl⟩ : ∃ g, f = c + (g + 1) := ⟨f - c - 1, by omega⟩
  rw [pc_add c (g + 1) (2 ^ c + r), pc_add c (g + 1) r, ← pc_mod c (2 ^ c + r), Nat.add_mod_left, pc_mod, Nat.div_eq_of_lt hr]
  have : (2 ^ c + r) / 2 ^ c = 1 := by rw [Nat.add_div_left _ (Nat.two_pow_pos c), Nat.div_eq_of_lt hr]
  rw [this, pc_zero]
  show pc c r + (1 % 2 + pc g (1 / 2)) = _
  rw [show 1 / 2 = 0 from rfl, pc_zero]
  omega
theorem pc_low (f c m : Nat) (hc : c < f) : pc f (2 ^ c * (2 * m + 1)) = 1 + pc f (2 ^ c * (2 * m)) := by
  obtain ⟨g, rfl⟩ : ∃ g, f = c + (g + 1) := ⟨f - c - 1, by omega⟩
  rw [pc_add c (g + 1) (2 ^ c * (2 * m + 1)), pc_add c (g + 1) (2 ^ c * (2 * m)), ← pc_mod c (2 ^ c * (2 * m + 1)), Nat.mul_mod_right, ← pc_mod c (2 ^ c * (2 * m)), Nat.mul_mod_right, Nat.mul_div_cancel_left _ (Nat.two_pow_pos c), Nat.mul_div_cancel_left _ (Nat.two_pow_pos c)]
  show pc c 0 + ((2 * m + 1) % 2 + pc g ((2 * m + 1) / 2)) = 1 + (pc c 0 + ((2 * m) % 2 + pc g ((2 * m) / 2)))
  rw [show (2 * m + 1) / 2 = m by omega, show 2 * m / 2 = m by omega]
  omega
theorem leftN_pc (M d : Nat) (hd : d ≤ 64) (hM : 2 ^ d ∣ M) : ∀ (f L : Nat), f ≤ 64 → L < 2 ^ d → L ≤ M → 2 ^ (64 - f) ∣ L → (leftN f M L).length = pc 64 L
  | 0, L, _, hL, _, hdv => by
    have h0 : L = 0 := by
      have h1 : L < 2 ^ 64 := Nat.lt_of_lt_of_le hL (Nat.pow_le_pow_right (by omega) hd)
      exact Nat.eq_zero_of_dvd_of_lt hdv h1
    subst h0
    rfl
  | f + 1, L, hf, hL, hLM, hdv => by
    by_cases h0 : L = 0
    · subst h0
      rw [leftN, if_pos rfl, pc_zero]; rfl
    have hs := lstep f d M L hf h0 hL hd hM hLM hdv
    have hL64 : L < 2 ^ 64 := Nat.lt_of_lt_of_le hL (Nat.pow_le_pow_right (by omega) hd)
    obtain ⟨m, h1, _⟩ := ctz_spec L h0 hL64
    rw [leftN, if_neg h0, List.length_cons]
    generalize Lib.ctz 64 L = c at *
    obtain ⟨c63, cd, fc, le, dvd, _, _⟩ := hs
    rw [leftN_pc M d hd hM f (L - 2 ^ c) (by omega) (by omega) (by omega) (Nat.dvd_trans (Nat.pow_dvd_pow 2 (by omega)) dvd)]
    have e : L - 2 ^ c = 2 ^ c * (2 * m) := by
      rw [h1, Nat.mul_add, Nat.mul_one]; omega
    rw [e, h1, pc_low 64 c m (by omega)]
    omega
theorem rightN_pc (e : Nat) : ∀ (f R : Nat), f ≤ 64 → R < 2 ^ f → (rightN f e R).length = pc 64 R
  | 0, R, _, hR => by
    have h0 : R = 0 := by simpa using hR
    subst h0
    rfl
  | f + 1, R, hf, hR => by
    by_cases h0 : R = 0
    · subst h0
      rw [rightN, if_pos rfl, pc_zero]; rfl
    have hR64 : R < 2 ^ 64 := Nat.lt_of_lt_of_le hR (Nat.pow_le_pow_right (by omega) hf)
    obtain ⟨h1, h2, h3, h4⟩ := len_spec R h0 hR64
    rw [rightN, if_neg h0, List.length_cons]
    obtain ⟨c, hc⟩ : ∃ c, Lib.bitLen R = c + 1 := ⟨Lib.bitLen R - 1, by omega⟩
    rw [hc] at h3 h4 ⊢
    rw [Nat.add_sub_cancel] at h3 ⊢
    have hcf : c ≤ f := by
      have : 2 ^ c < 2 ^ (f + 1) := Nat.lt_of_le_of_lt h3 hR
      have := (Nat.pow_lt_pow_iff_right (a := 2) (by omega)).1 this
      omega
    have hlt : R - 2 ^ c < 2 ^ c := by rw [Nat.pow_succ] at h4; omega
    have hlf : R - 2 ^ c < 2 ^ f := Nat.lt_of_lt_of_le hlt (Nat.pow_le_pow_right (by omega) hcf)
    rw [rightN_pc e f (R - 2 ^ c) (by omega) hlf]
    have h := pc_top 64 c (R - 2 ^ c) (by omega) hlt
    rw [show 2 ^ c + (R - 2 ^ c) = R by omega] at h
    rw [h]
    omega
end Go.Proofs.YtfhcpniibiobgaaDoor.M
namespace Go.Proofs.YtfhcpniibiobgaaDoor.M
open Go
def inn (i n : Nat) : Nat := Lib.bitLen (i ^^^ (n - 1))
def vlen (i n : Nat) : Nat := inn i n + pc 64 (i / 2 ^ inn i n)
theorem bitLen_at {z m : Nat} (h1 : 2 ^ m ≤ z) (h2 : z < 2 ^ (m + 1)) (h : z < 2 ^ 64) : Lib.bitLen z = m + 1 := by
  have hz : z ≠ 0 := by have := Nat.two_pow_pos m; omega
  obtain ⟨p1, p2, p3, p4⟩ := len_spec z hz h
  have a1 : Lib.bitLen z - 1 < m + 1 := (Nat.pow_lt_pow_iff_right (by omega : 1 < 2)).1 (Nat.lt_of_le_of_lt p3 h2)
  have a2 : m < Lib.bitLen z := (Nat.pow_lt_pow_iff_right (by omega : 1 < 2)).1 (Nat.lt_of_le_of_lt h1 p4)
  omega
theorem div_one {t y : Nat} (h1 : 2 ^ t ≤ y) (h2 : y < 2 ^ (t + 1)) : y / 2 ^ t = 1 := by
  have : 2 ^ (t + 1) = 2 * 2 ^ t := by rw [Nat.pow_succ, Nat.mul_comm]
  have hp := Nat.two_pow_pos t
  rw [Nat.div_eq_iff hp]
  omega
theorem vlen_left {i n t : Nat} (ht : t < 64) (hi : i < 2 ^ t) (h1 : 2 ^ t < n) (h2 : n ≤ 2 ^ (t + 1)) (hn : n < 2 ^ 64) : vlen i n = t + 1 := by
  have hx : (i ^^^ (n - 1)) / 2 ^ t = 1 := by
    rw [Nat.xor_div_two_pow, Nat.div_eq_of_lt hi, Nat.zero_xor]
    exact div_one (by omega) (by omega)
  have hp := Nat.two_pow_pos t
  have hq : 2 ^ (t + 1) = 2 * 2 ^ t := by rw [Nat.pow_succ, Nat.mul_comm]
  have hz := Nat.div_add_mod (i ^^^ (n - 1)) (2 ^ t)
  rw [hx, Nat.mul_one] at hz
  have hm := Nat.mod_lt (i ^^^ (n - 1)) hp
  have h64 : 2 ^ (t + 1) ≤ 2 ^ 64 := Nat.pow_le_pow_right (by omega) (by omega)
  have hb : inn i n = t + 1 := bitLen_at (by omega) (by omega) (by omega)
  unfold vlen
  rw [hb, Nat.div_eq_of_lt (by omega), pc_zero]
theorem vlen_right {i n t : Nat} (ht : t < 64) (hi : 2 ^ t ≤ i) (hin : i < n) (h2 : n ≤ 2 ^ (t + 1)) : vlen i n = vlen (i - 2 ^ t) (n - 2 ^ t) + 1 := by
  have hp := Nat.two_pow_pos t
  have hq : 2 ^ (t + 1) = 2 * 2 ^ t := by rw [Nat.pow_succ, Nat.mul_comm]
  have e1 : i / 2 ^ t = 1 := div_one hi (by omega)
  have e2 : (n - 1) / 2 ^ t = 1 := div_one (by omega) (by omega)
  have m1 : i % 2 ^ t = i - 2 ^ t := by have := Nat.div_add_mod i (2 ^ t); rw [e1] at this; omega
  have m2 : (n - 1) % 2 ^ t = n - 2 ^ t - 1 := by have := Nat.div_add_mod (n - 1) (2 ^ t); rw [e2] at this; omega
  have hx : (i ^^^ (n - 1)) = (i - 2 ^ t) ^^^ (n - 2 ^ t - 1) := by
    have a := Nat.div_add_mod (i ^^^ (n - 1)) (2 ^ t)
    rw [Nat.xor_div_two_pow, e1, e2, Nat.xor_self, Nat.mul_zero, Nat.zero_add, Nat.xor_mod_two_pow, m1, m2] at a
    exact a.symm
  have hb : inn i n = inn (i - 2 ^ t) (n - 2 ^ t) := by unfold inn; rw [hx]
  have hlt : (i - 2 ^ t) ^^^ (n - 2 ^ t - 1) < 2 ^ t := Nat.xor_lt_two_pow (by omega) (by omega)
  have hle : inn (i - 2 ^ t) (n - 2 ^ t) ≤ t := by
    unfold inn
    by_cases h0 : (i - 2 ^ t) ^^^ (n - 2 ^ t - 1) = 0
    · rw [h0]
      exact Nat.zero_le _
    · have h64 : 2 ^ t ≤ 2 ^ 64 := Nat.pow_le_pow_right (by omega) (by omega)
      obtain ⟨p1, p2, p3, p4⟩ := len_spec _ h0 (Nat.lt_of_lt_of_le hlt h64)
      have := (Nat.pow_lt_pow_iff_right (by omega : 1 < 2)).1 (Nat.lt_of_le_of_lt p3 hlt)
      omega
  unfold vlen
  rw [hb]
  generalize inn (i - 2 ^ t) (n - 2 ^ t) = m at hle
  have hsplit : 2 ^ t = 2 ^ (t - m) * 2 ^ m := by rw [← Nat.pow_add]; congr 1; omega
  have hd : i / 2 ^ m = 2 ^ (t - m) + (i - 2 ^ t) / 2 ^ m := by
    have : i = (i - 2 ^ t) + 2 ^ (t - m) * 2 ^ m := by omega
    conv => lhs; rw [this]
    rw [Nat.add_mul_div_right _ _ (Nat.two_pow_pos m), Nat.add_comm]
  have hr : (i - 2 ^ t) / 2 ^ m < 2 ^ (t - m) := by
    rw [Nat.div_lt_iff_lt_mul (Nat.two_pow_pos m), ← hsplit]
    omega
  rw [hd, pc_top 64 (t - m) _ (by omega) hr]
  omega
theorem vlen_one : vlen 0 1 = 0 := by
  unfold vlen inn
  decide
end Go.Proofs.YtfhcpniibiobgaaDoor.M
namespace Go.Proofs.YtfhcpniibiobgaaDoor.M
open Go
def In (b e l i : Nat) : Prop := b ≤ 2 ^ l * i ∧ 2 ^ l * (i + 1) ≤ e
def Mx (b e l i : Nat) : Prop := In b e l i ∧ ¬ In b e (l + 1) (i / 2)
theorem div_lo (p l : Nat) : 2 ^ l * (p / 2 ^ l) ≤ p := Nat.mul_div_le p _
theorem div_hi (p l : Nat) : p < 2 ^ l * (p / 2 ^ l + 1) := by
  have h1 := Nat.div_add_mod p (2 ^ l)
  have h2 := Nat.mod_lt p (Nat.two_pow_pos l)
  rw [Nat.mul_add, Nat.mul_one]; omega
theorem div_of {p l i : Nat} (h1 : 2 ^ l * i ≤ p) (h2 : p < 2 ^ l * (i + 1)) : p / 2 ^ l = i := by
  rw [Nat.div_eq_iff (Nat.two_pow_pos l)]
  rw [Nat.mul_comm i]
  rw [Nat.mul_add, Nat.mul_one] at h2
  omega
theorem half_div (p l : Nat) : p / 2 ^ (l + 1) = p / 2 ^ l / 2 := by rw [Nat.div_div_eq_div_mul, ← Nat.pow_succ]
theorem in_half {b e l i : Nat} (h : In b e (l + 1) (i / 2)) : In b e l i := by
  obtain ⟨h1, h2⟩ := h
  rw [Nat.pow_succ, Nat.mul_assoc] at h1 h2
  constructor
  · exact Nat.le_trans h1 (Nat.mul_le_mul_left _ (by omega))
  · exact Nat.le_trans (Nat.mul_le_mul_left _ (by omega)) h2
theorem in_down {b e p l : Nat} (h : In b e (l + 1) (p / 2 ^ (l + 1))) : In b e l (p / 2 ^ l) := by
  rw [half_div] at h
  exact in_half h
theorem in_le {b e p : Nat} : ∀ {l k : Nat}, In b e (l + k) (p / 2 ^ (l + k)) → In b e l (p / 2 ^ l)
  | _, 0, h => h
  | _, k + 1, h => in_le (k := k) (in_down h)
theorem in_mono {b e p l l' : Nat} (hl : l ≤ l') (h : In b e l' (p / 2 ^ l')) : In b e l (p / 2 ^ l) := by
  obtain ⟨k, rfl⟩ : ∃ k, l' = l + k := ⟨l' - l, by omega⟩
  exact in_le h
theorem mx_one {b e p l l' : Nat} (h : Mx b e l (p / 2 ^ l)) (h' : Mx b e l' (p / 2 ^ l')) : l = l' := by
  have key : ∀ {l l' : Nat}, l < l' → Mx b e l (p / 2 ^ l) → Mx b e l' (p / 2 ^ l') → False := by
    intro l l' hl h h'
    have := in_mono (l := l + 1) (by omega) h'.1
    rw [half_div] at this
    exact h.2 this
  rcases Nat.lt_trichotomy l l' with hl | hl | hl
  · exact (key hl h h').elim
  · exact hl
  · exact (key hl h' h).elim
theorem in_start (l i : Nat) : 2 ^ l * i / 2 ^ l = i := Nat.mul_div_cancel_left _ (Nat.two_pow_pos l)
theorem leftN_mx (b e M d : Nat) (hd : d ≤ 64) (hM : 2 ^ d ∣ M) (hMe : M ≤ e) : ∀ (f L j : Nat), f ≤ 64 → L < 2 ^ d → L ≤ M → b ≤ M - L → 64 - f ≤ j → 2 ^ j ∣ L → M - L < b + 2 ^ j →
    ∀ x, x ∈ leftN f M L → Mx b e x.1 x.2 ∧ x.2 % 2 = 1 ∧ j ≤ x.1 ∧ x.1 < 64
  | 0, _, _, _, _, _, _, _, _, _, x, hx => by simp [leftN] at hx
  | f + 1, L, j, hf, hL, hLM, hb, hj, hdv, hlow, x, hx => by
    by_cases h0 : L = 0
    · subst h0; simp [leftN] at hx
    have hs := lstep f d M L hf h0 hL hd hM hLM (Nat.dvd_trans (Nat.pow_dvd_pow 2 hj) hdv)
    rw [leftN, if_neg h0, List.mem_cons] at hx
    have hL64 : L < 2 ^ 64 := Nat.lt_of_lt_of_le hL (Nat.pow_le_pow_right (by omega) hd)
    have hjc : j ≤ Lib.ctz 64 L := by
      obtain ⟨m, h1, _⟩ := ctz_spec L h0 hL64
      rw [h1] at hdv
      exact pow_dvd_le hdv
    generalize Lib.ctz 64 L = c at *
    obtain ⟨c63, cd, fc, le, dvd, ⟨m, odd⟩, low⟩ := hs
    have hp : 2 ^ j ≤ 2 ^ c := Nat.pow_le_pow_right (by omega) hjc
    rcases hx with rfl | hx
    · have hq : (M - L) / 2 ^ c = 2 * m + 1 := by rw [odd, Nat.mul_div_cancel_left _ (Nat.two_pow_pos c)]
      simp only [hq]
      refine ⟨⟨⟨?_, ?_⟩, ?_⟩, by omega, hjc, by omega⟩
      · rw [← odd]; exact hb
      · rw [Nat.mul_add (2 ^ c) (2 * m + 1) 1, ← odd]; omega
      · intro h
        have h2 := h.1
        rw [show (2 * m + 1) / 2 = m by omega, Nat.pow_succ, Nat.mul_assoc] at h2
        rw [Nat.mul_add, Nat.mul_one] at odd
        omega
    · have hsub : M - (L - 2 ^ c) = M - L + 2 ^ c := by omega
      have h2 : 2 ^ (c + 1) = 2 ^ c + 2 ^ c := by rw [Nat.pow_succ]; omega
      obtain ⟨r1, r2, r3, r4⟩ := leftN_mx b e M d hd hM hMe f (L - 2 ^ c) (c + 1) (by omega) (by omega) (by omega) (by omega) (by omega) dvd (by omega) x hx
      exact ⟨r1, r2, by omega, r4⟩
theorem leftN_nodup (M d : Nat) (hd : d ≤ 64) (hM : 2 ^ d ∣ M) : ∀ (f L : Nat), f ≤ 64 → L < 2 ^ d → L ≤ M → 2 ^ (64 - f) ∣ L → (leftN f M L).Nodup ∧ ∀ j, 2 ^ j ∣ L → 64 - f ≤ j → ∀ x, x ∈ leftN f M L → j ≤ x.1
  | 0, _, _, _, _, _ => by simp [leftN]
  | f + 1, L, hf, hL, hLM, hdv => by
    by_cases h0 : L = 0
    · subst h0; simp [leftN]
    have hs := lstep f d M L hf h0 hL hd hM hLM hdv
    have hL64 : L < 2 ^ 64 := Nat.lt_of_lt_of_le hL (Nat.pow_le_pow_right (by omega) hd)
    obtain ⟨m', hm', _⟩ := ctz_spec L h0 hL64
    rw [leftN, if_neg h0]
    generalize Lib.ctz 64 L = c at *
    obtain ⟨c63, cd, fc, le, dvd, _, _⟩ := hs
    have ih := leftN_nodup M d hd hM f (L - 2 ^ c) (by omega) (by omega) (by omega) (Nat.dvd_trans (Nat.pow_dvd_pow 2 (by omega)) dvd)
    refine ⟨?_, ?_⟩
    · rw [List.nodup_cons]
      refine ⟨fun hc => ?_, ih.1⟩
      have := ih.2 (c + 1) dvd (by omega) _ hc
      simp only at this
      omega
    · intro j hj hfj x hx
      rw [hm'] at hj
      have hjc := pow_dvd_le hj
      rw [List.mem_cons] at hx
      rcases hx with rfl | hx
      · exact hjc
      · have := ih.2 (c + 1) dvd (by omega) _ hx
        omega
theorem rightN_all (b e : Nat) : ∀ (f R : Nat), f ≤ 64 → R < 2 ^ f → R ≤ e → b ≤ e - R → 2 ^ f ∣ e - R →
    (rightN f e R).Nodup ∧ (∀ x, x ∈ rightN f e R → Mx b e x.1 x.2 ∧ x.2 % 2 = 0 ∧ x.1 < f) ∧ ∀ p, e - R ≤ p → p < e → ∃ l, (l, p / 2 ^ l) ∈ rightN f e R := by
  intro f
  induction f using Nat.strongRecOn with
  | _ f ih =>
  intro R hf hR hRe hb hdv
  by_cases h0 : R = 0
  · subst h0
    have : rightN f e 0 = [] := by cases f <;> simp [rightN]
    rw [this]
    refine ⟨by simp, by simp, ?_⟩
    intro p h1 h2; omega
  obtain ⟨f, rfl⟩ : ∃ g, f = g + 1 := by
    refine ⟨f - 1, ?_⟩
    rcases Nat.eq_zero_or_pos f with h | h
    · subst h; simp at hR; omega
    · omega
  have hs := rstep f e R hf h0 hR hRe hdv
  have hun : rightN (f + 1) e R = (Lib.bitLen R - 1, (e - R) / 2 ^ (Lib.bitLen R - 1)) :: rightN f e (R - 2 ^ (Lib.bitLen R - 1)) := by
    rw [rightN, if_neg h0]
  rw [hun]
  generalize Lib.bitLen R - 1 = c at *
  obtain ⟨c63, cf, le, lt, rest, ⟨m, even⟩, dvd⟩ := hs
  have hsub : e - (R - 2 ^ c) = e - R + 2 ^ c := by omega
  have hfuel : rightN f e (R - 2 ^ c) = rightN c e (R - 2 ^ c) := rightN_fuel c f e _ cf (by omega) rest
  obtain ⟨i1, i2, i3⟩ := ih c (by omega) (R - 2 ^ c) (by omega) rest (by omega) (by omega) dvd
  rw [hfuel]
  have hq : (e - R) / 2 ^ c = 2 * m := by rw [even, Nat.mul_div_cancel_left _ (Nat.two_pow_pos c)]
  refine ⟨?_, ?_, ?_⟩
  · rw [List.nodup_cons]
    refine ⟨fun hc => ?_, i1⟩
    have := (i2 _ hc).2.2
    simp only at this
    omega
  · intro x hx
    rw [List.mem_cons] at hx
    rcases hx with rfl | hx
    · simp only [hq]
      refine ⟨⟨⟨?_, ?_⟩, ?_⟩, by omega, by omega⟩
      · rw [← even]; exact hb
      · rw [Nat.mul_add (2 ^ c) (2 * m) 1, ← even]; omega
      · intro h
        have h2 := h.2
        rw [show 2 * m / 2 = m by omega, Nat.pow_succ, Nat.mul_assoc, show 2 * (m + 1) = 2 * m + 2 by omega, Nat.mul_add, ← even] at h2
        rw [Nat.pow_succ] at lt
        omega
    · obtain ⟨r1, r2, r3⟩ := i2 x hx
      exact ⟨r1, r2, by omega⟩
  · intro p h1 h2
    by_cases hp : p < e - R + 2 ^ c
    · refine ⟨c, ?_⟩
      rw [List.mem_cons]
      left
      congr 1
      rw [even, Nat.mul_div_cancel_left _ (Nat.two_pow_pos c)]
      apply div_of
      · rw [← even]; exact h1
      · rw [Nat.mul_add (2 ^ c) (2 * m) 1, ← even]; omega
    · obtain ⟨l, hl⟩ := i3 p (by omega) h2
      exact ⟨l, List.mem_cons_of_mem _ hl⟩
structure Cut (b e L R M d : Nat) : Prop where
  lo : b + L = M
  hi : M + R = e
  d64 : d ≤ 64
  dvd : 2 ^ d ∣ M
  l : L < 2 ^ d
  r : R < 2 ^ d
section
variable {b e L R M d : Nat}
theorem nodesN_eq (h : Cut b e L R M d) : nodesN M e L R = leftN 64 M L ++ rightN d e R := by
  rw [nodesN, rightN_fuel d 64 e R h.d64 (by omega) h.r]
theorem right_facts (h : Cut b e L R M d) : (rightN d e R).Nodup ∧ (∀ x, x ∈ rightN d e R → Mx b e x.1 x.2 ∧ x.2 % 2 = 0 ∧ x.1 < d) ∧ ∀ p, e - R ≤ p → p < e → ∃ l, (l, p / 2 ^ l) ∈ rightN d e R := rightN_all b e d R h.d64 h.r (by have := h.hi; omega) (by have := h.hi; have := h.lo; omega) (by
  have h1 := h.hi
  rw [show e - R = M by omega]; exact h.dvd)
theorem nodesN_mx (h : Cut b e L R M d) {x : Nat × Nat} (hx : x ∈ nodesN M e L R) : Mx b e x.1 x.2 ∧ x.1 < 64 := by
  have h1 := h.hi
  have h2 := h.lo
  have h3 := h.d64
  rw [nodesN_eq h, List.mem_append] at hx
  rcases hx with hx | hx
  · obtain ⟨r1, _, _, r4⟩ := leftN_mx b e M d h.d64 h.dvd (by omega) 64 L 0 (by omega) h.l (by omega) (by omega) (by omega) (by simp) (by omega) x hx
    exact ⟨r1, r4⟩
  · obtain ⟨r1, _, r3⟩ := (right_facts h).2.1 x hx
    exact ⟨r1, by omega⟩
theorem nodesN_nodup (h : Cut b e L R M d) : (nodesN M e L R).Nodup := by
  have h3 := h.hi
  have h4 := h.lo
  rw [nodesN_eq h, List.nodup_append]
  refine ⟨(leftN_nodup M d h.d64 h.dvd 64 L (by omega) h.l (by omega) (by simp)).1, (right_facts h).1, ?_⟩
  intro x hx y hy hxy
  subst hxy
  obtain ⟨_, r2, _, _⟩ := leftN_mx b e M d h.d64 h.dvd (by omega) 64 L 0 (by omega) h.l (by omega) (by omega) (by omega) (by simp) (by omega) x hx
  have := ((right_facts h).2.1 x hy).2.1
  omega
end
section
variable {b m e : Nat} {W A C : List (Nat × Nat)}
end
end Go.Proofs.YtfhcpniibiobgaaDoor.M
namespace Go.Proofs.YtfhcpniibiobgaaDoor.M
open Go
def Chain : Nat → Nat → List (Nat × Nat) → Prop
  | b, e, [] => b = e
  | b, e, x :: xs => b = 2 ^ x.1 * x.2 ∧ Chain (2 ^ x.1 * (x.2 + 1)) e xs
theorem chain_append : ∀ {l r : List (Nat × Nat)} {b m e : Nat}, Chain b m l → Chain m e r → Chain b e (l ++ r)
  | [], _, _, _, _, h, h' => by
    cases h
    exact h'
  | _ :: _, _, _, _, _, h, h' => ⟨h.1, chain_append h.2 h'⟩
theorem chain_le : ∀ {l : List (Nat × Nat)} {b e : Nat}, Chain b e l → b ≤ e
  | [], _, _, h => Nat.le_of_eq h
  | x :: _, _, _, h => by
    have h1 := chain_le h.2
    have h2 := h.1
    rw [Nat.mul_add] at h1
    omega
theorem chain_mem : ∀ {l : List (Nat × Nat)} {b e : Nat}, Chain b e l → ∀ x, x ∈ l → b ≤ 2 ^ x.1 * x.2 ∧ 2 ^ x.1 * (x.2 + 1) ≤ e
  | [], _, _, _, _, hx => by cases hx
  | y :: l, b, e, h, x, hx => by
    rcases List.mem_cons.1 hx with rfl | hx
    · exact ⟨Nat.le_of_eq h.1, chain_le h.2⟩
    · have h1 := chain_mem h.2 x hx
      have h2 := h.1
      rw [Nat.mul_add] at h1
      exact ⟨by omega, h1.2⟩
theorem chain_left (M d : Nat) (hd : d ≤ 64) (hM : 2 ^ d ∣ M) : ∀ (f L : Nat), f ≤ 64 → L < 2 ^ d → L ≤ M → 2 ^ (64 - f) ∣ L → Chain (M - L) M (leftN f M L)
  | 0, L, _, hL, _, hdv => by
    have h0 : L = 0 := Nat.eq_zero_of_dvd_of_lt hdv (Nat.lt_of_lt_of_le hL (Nat.pow_le_pow_right (by omega) hd))
    subst h0
    exact Nat.sub_zero M
  | f + 1, L, hf, hL, hLM, hdv => by
    by_cases h0 : L = 0
    · subst h0
      rw [leftN, if_pos rfl]
      exact Nat.sub_zero M
    have hs := lstep f d M L hf h0 hL hd hM hLM hdv
    rw [leftN, if_neg h0]
    generalize Lib.ctz 64 L = c at *
    obtain ⟨c63, cd, fc, le, dvd, ⟨m, odd⟩, low⟩ := hs
    have hq : (M - L) / 2 ^ c = 2 * m + 1 := by rw [odd, Nat.mul_div_cancel_left _ (Nat.two_pow_pos c)]
    have ih := chain_left M d hd hM f (L - 2 ^ c) (by omega) (by omega) (by omega) (Nat.dvd_trans (Nat.pow_dvd_pow 2 (by omega)) dvd)
    refine ⟨?_, ?_⟩
    · show M - L = 2 ^ c * ((M - L) / 2 ^ c)
      rw [hq]
      exact odd
    · show Chain (2 ^ c * ((M - L) / 2 ^ c + 1)) M _
      have e1 : 2 ^ c * ((M - L) / 2 ^ c + 1) = M - (L - 2 ^ c) := by
        rw [hq, Nat.mul_add (2 ^ c) (2 * m + 1) 1, ← odd]
        omega
      rw [e1]
      exact ih
theorem chain_right (e : Nat) : ∀ (f R : Nat), f ≤ 64 → R < 2 ^ f → R ≤ e → 2 ^ f ∣ e - R → Chain (e - R) e (rightN f e R) := by
  intro f
  induction f using Nat.strongRecOn with
  | _ f ih =>
  intro R hf hR hRe hdv
  by_cases h0 : R = 0
  · subst h0
    have : rightN f e 0 = [] := by cases f <;> simp [rightN]
    rw [this]
    exact Nat.sub_zero e
  obtain ⟨f, rfl⟩ : ∃ g, f = g + 1 := by
    refine ⟨f - 1, ?_⟩
    rcases Nat.eq_zero_or_pos f with h | h
    · subst h; simp at hR; omega
    · omega
  have hs := rstep f e R hf h0 hR hRe hdv
  rw [rightN, if_neg h0]
  generalize Lib.bitLen R - 1 = c at *
  obtain ⟨c63, cf, le, lt, rest, ⟨m, even⟩, dvd⟩ := hs
  have hfuel : rightN f e (R - 2 ^ c) = rightN c e (R - 2 ^ c) := rightN_fuel c f e _ cf (by omega) rest
  have i1 := ih c (by omega) (R - 2 ^ c) (by omega) rest (by omega) dvd
  have hq : (e - R) / 2 ^ c = 2 * m := by rw [even, Nat.mul_div_cancel_left _ (Nat.two_pow_pos c)]
  rw [hfuel]
  refine ⟨?_, ?_⟩
  · show e - R = 2 ^ c * ((e - R) / 2 ^ c)
    rw [hq]
    exact even
  · show Chain (2 ^ c * ((e - R) / 2 ^ c + 1)) e _
    have e1 : 2 ^ c * ((e - R) / 2 ^ c + 1) = e - (R - 2 ^ c) := by
      rw [hq, Nat.mul_add (2 ^ c) (2 * m) 1, ← even]
      omega
    rw [e1]
    exact i1
structure IsN (b e : Nat) (l : List (Nat × Nat)) : Prop where
  chain : Chain b e l
  mx : ∀ x, x ∈ l → Mx b e x.1 x.2
theorem isN_cut {b e L R M d : Nat} (h : Cut b e L R M d) : IsN b e (nodesN M e L R) := by
  refine ⟨?_, fun x hx => (nodesN_mx h hx).1⟩
  have h3 := h.hi
  have h4 := h.lo
  rw [nodesN_eq h]
  have c1 := chain_left M d h.d64 h.dvd 64 L (by omega) h.l (by omega) (by simp)
  have c2 := chain_right e d R h.d64 h.r (by omega) (by rw [show e - R = M by omega]; exact h.dvd)
  rw [show M - L = b by omega] at c1
  rw [show e - R = M by omega] at c2
  exact chain_append c1 c2
theorem chain_uniq {b e : Nat} : ∀ {l r : List (Nat × Nat)} {p : Nat}, Chain p e l → Chain p e r → (∀ x, x ∈ l → Mx b e x.1 x.2) → (∀ x, x ∈ r → Mx b e x.1 x.2) → l = r
  | [], [], _, _, _, _, _ => rfl
  | [], y :: r, p, h, h', _, _ => by
    have h1 := chain_le h'.2
    have h2 := h'.1
    have h3 : p = e := h
    have := Nat.two_pow_pos y.1
    rw [Nat.mul_add] at h1
    omega
  | x :: l, [], p, h', h, _, _ => by
    have h1 := chain_le h'.2
    have h2 := h'.1
    have h3 : p = e := h
    have := Nat.two_pow_pos x.1
    rw [Nat.mul_add] at h1
    omega
  | x :: l, y :: r, p, h, h', hl, hr => by
    have m1 := hl x List.mem_cons_self
    have m2 := hr y List.mem_cons_self
    have e1 : p / 2 ^ x.1 = x.2 := by rw [h.1]; exact in_start _ _
    have e2 : p / 2 ^ y.1 = y.2 := by rw [h'.1]; exact in_start _ _
    rw [← e1] at m1
    rw [← e2] at m2
    have e3 := mx_one m1 m2
    have e4 : x.2 = y.2 := by rw [← e1, ← e2, e3]
    have e5 : x = y := Prod.ext e3 e4
    subst e5
    congr 1
    exact chain_uniq h.2 h'.2 (fun z hz => hl z (List.mem_cons_of_mem _ hz)) (fun z hz => hr z (List.mem_cons_of_mem _ hz))
theorem isN_uniq {b e : Nat} {l r : List (Nat × Nat)} (h : IsN b e l) (h' : IsN b e r) : l = r := chain_uniq h.chain h'.chain h.mx h'.mx
def up (k : Nat) (l : List (Nat × Nat)) : List (Nat × Nat) := l.map fun x => (x.1 + k, x.2)
end Go.Proofs.YtfhcpniibiobgaaDoor.M
namespace Go.Proofs.YtfhcpniibiobgaaDoor.M
open Go
theorem isN_ex (b e : Nat) (hbe : b ≤ e) (he : e < 2 ^ 64) : ∃ W, IsN b e W ∧ W.length ≤ 128 := by
  have hex : ∃ L R X d, Cut b e L R X d := by
    by_cases hb0 : b = 0
    · subst hb0
      exact ⟨0, e, 0, 64, by omega, by omega, by omega, by simp, by omega, he⟩
    obtain ⟨d, q, h1, h2, h3, h4, h5, h6, h7, h8⟩ := cut b e (by omega) hbe he
    exact ⟨2 ^ d - 1 - (b - 1) % 2 ^ d, e % 2 ^ d, 2 ^ d * q, d, h6, h5.symm, by omega, Nat.dvd_mul_right _ _, by
      have := Nat.two_pow_pos d
      omega, h8⟩
  obtain ⟨L, R, X, d, h⟩ := hex
  refine ⟨nodesN X e L R, isN_cut h, ?_⟩
  have h1 := leftN_len 64 X L
  have h2 := rightN_len 64 e R
  rw [nodesN, List.length_append]
  omega
def sibs : Nat → Nat → Nat → List (Nat × Nat)
  | 0, _, _ => []
  | c + 1, l, i => (l, i ^^^ 1) :: sibs c (l + 1) (i / 2)
theorem sibs_length : ∀ (c l i : Nat), (sibs c l i).length = c
  | 0, _, _ => rfl
  | c + 1, l, i => by rw [sibs, List.length_cons, sibs_length c]
theorem sibs_last : ∀ (c l i : Nat), sibs (c + 1) l i = sibs c l i ++ [(l + c, (i / 2 ^ c) ^^^ 1)]
  | 0, l, i => by simp [sibs]
  | c + 1, l, i => by
    rw [sibs, sibs_last c (l + 1) (i / 2), sibs]
    rw [Nat.div_div_eq_div_mul, ← Nat.pow_succ', show l + 1 + c = l + (c + 1) by omega]
    rfl
theorem xor1_even {n : Nat} (h : n % 2 = 0) : n ^^^ 1 = n + 1 := by
  have h2 : (n ^^^ 1) / 2 = n / 2 := by
    rw [Nat.xor_div_two]; simp
  have h3 : (n ^^^ 1) % 2 = 1 := by
    rw [Nat.xor_mod_two_eq_one]
    omega
  omega
theorem xor1_odd {n : Nat} (h : n % 2 = 1) : n ^^^ 1 = n - 1 := by
  have h2 : (n ^^^ 1) / 2 = n / 2 := by
    rw [Nat.xor_div_two]; simp
  have h3 : ¬ (n ^^^ 1) % 2 = 1 := by
    rw [Nat.xor_mod_two_eq_one]
    omega
  omega
theorem isN_nil (b : Nat) : IsN b b [] := ⟨rfl, fun _ h => by cases h⟩
theorem isN_same {b : Nat} {W : List (Nat × Nat)} (h : IsN b b W) : W = [] := isN_uniq h (isN_nil b)
theorem isN_one {b t : Nat} (h : 2 ^ t ∣ b) {e : Nat} (he : e = b + 2 ^ t) : IsN b e [(t, b / 2 ^ t)] := by
  subst he
  have e1 : 2 ^ t * (b / 2 ^ t) = b := Nat.mul_div_cancel' h
  refine ⟨⟨e1.symm, ?_⟩, ?_⟩
  · show 2 ^ t * (b / 2 ^ t + 1) = b + 2 ^ t
    rw [Nat.mul_add, e1, Nat.mul_one]
  · intro x hx
    obtain rfl := List.mem_singleton.1 hx
    refine ⟨⟨Nat.le_of_eq e1.symm, Nat.le_of_eq ?_⟩, ?_⟩
    · show 2 ^ t * (b / 2 ^ t + 1) = b + 2 ^ t
      rw [Nat.mul_add, e1, Nat.mul_one]
    · rintro ⟨h1, h2⟩
      have h3 : 2 ^ (t + 1) * (b / 2 ^ t / 2 + 1) = 2 ^ (t + 1) * (b / 2 ^ t / 2) + 2 ^ (t + 1) := by rw [Nat.mul_add, Nat.mul_one]
      have h4 : 2 ^ (t + 1) * (b / 2 ^ t / 2 + 1) ≤ b + 2 ^ t := h2
      have h5 : b ≤ 2 ^ (t + 1) * (b / 2 ^ t / 2) := h1
      rw [h3] at h4
      have h6 : 2 ^ (t + 1) = 2 * 2 ^ t := Nat.pow_succ'
      have := Nat.two_pow_pos t
      generalize 2 ^ (t + 1) * (b / 2 ^ t / 2) = A at h4 h5
      omega
end Go.Proofs.YtfhcpniibiobgaaDoor.M
namespace Go.Proofs.YtfhcpniibiobgaaDoor.M
open Go
def lo (x : Nat × Nat) : Nat := 2 ^ x.1 * x.2
def hi (x : Nat × Nat) : Nat := 2 ^ x.1 * (x.2 + 1)
theorem lo_hi (x : Nat × Nat) : hi x = lo x + 2 ^ x.1 := by unfold lo hi; rw [Nat.mul_add, Nat.mul_one]
def Dis (x y : Nat × Nat) : Prop := hi x ≤ lo y ∨ hi y ≤ lo x
theorem Dis.symm {x y : Nat × Nat} (h : Dis x y) : Dis y x := Or.symm h
def sz (l : List (Nat × Nat)) : Nat := (l.map fun x => 2 ^ x.1).sum
theorem sz_nil : sz [] = 0 := rfl
theorem sz_cons (x : Nat × Nat) (l : List (Nat × Nat)) : sz (x :: l) = 2 ^ x.1 + sz l := by simp [sz]
theorem chain_facts : ∀ {l : List (Nat × Nat)} {b e : Nat}, Chain b e l → l.Pairwise Dis ∧ b + sz l = e ∧ ∀ x, x ∈ l → b ≤ lo x ∧ hi x ≤ e
  | [], b, e, h => ⟨List.Pairwise.nil, by rw [sz_nil]; exact h, fun _ hx => by cases hx⟩
  | x :: l, b, e, h => by
    obtain ⟨i1, i2, i3⟩ := chain_facts h.2
    have h1 : b = lo x := h.1
    have h2 : hi x + sz l = e := i2
    have h3 := lo_hi x
    have h0 := Nat.two_pow_pos x.1
    have h4 := chain_le h.2
    refine ⟨List.Pairwise.cons (fun y hy => .inl (i3 y hy).1) i1, by rw [sz_cons]; omega, ?_⟩
    intro y hy
    rcases List.mem_cons.1 hy with rfl | hy
    · exact ⟨Nat.le_of_eq h1, by omega⟩
    · have h5 : hi x ≤ lo y := (i3 y hy).1
      exact ⟨by omega, (i3 y hy).2⟩
end Go.Proofs.YtfhcpniibiobgaaDoor.M
