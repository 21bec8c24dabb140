/- The nodes of a range, as lists of levels and indexes. No program stands in it. -/
import Derived.Test.YtfhcpniibiobgaaDoorM
namespace Go.Proofs.YtfhcpniibiobgaaDoor.M
open Go

/-- The nodes of the part ahead of M, L long: from the least one up. -/
def leftN : Nat → Nat → Nat → List (Nat × Nat)
  | 0, _, _ => []
  | f + 1, M, L => if L = 0 then [] else (Lib.ctz 64 L, (M - L) / 2 ^ Lib.ctz 64 L) :: leftN f M (L - 2 ^ Lib.ctz 64 L)

/-- The nodes of the part behind, R long, that ends at e: from the greatest one down. -/
def rightN : Nat → Nat → Nat → List (Nat × Nat)
  | 0, _, _ => []
  | f + 1, e, R => if R = 0 then [] else (Lib.bitLen R - 1, (e - R) / 2 ^ (Lib.bitLen R - 1)) :: rightN f e (R - 2 ^ (Lib.bitLen R - 1))

def nodesN (M e L R : Nat) : List (Nat × Nat) := leftN 64 M L ++ rightN 64 e R

/-- What is known of the lowest bit of L > 0. -/
theorem ctz_spec (L : Nat) (h0 : L ≠ 0) (h : L < 2 ^ 64) : ∃ m, L = 2 ^ Lib.ctz 64 L * (2 * m + 1) ∧ Lib.ctz 64 L < 64 := by
  obtain ⟨m, h1, h2⟩ := Lib.ctzFrom_spec 64 L (by omega) h
  have : Lib.ctz 64 L = Lib.ctzFrom 64 L := by unfold Lib.ctz; rw [if_neg h0]
  rw [this]
  exact ⟨m, h1, h2⟩

theorem pow_dvd_le {a b m : Nat} (h : 2 ^ a ∣ 2 ^ b * (2 * m + 1)) : a ≤ b := by
  by_cases hab : a ≤ b
  · exact hab
  exfalso
  obtain ⟨c, rfl⟩ : ∃ c, a = b + 1 + c := ⟨a - b - 1, by omega⟩
  rw [Nat.pow_add, Nat.pow_add, Nat.mul_assoc] at h
  have h2 := Nat.dvd_of_mul_dvd_mul_left (Nat.two_pow_pos b) h
  have h3 : 2 ∣ 2 * m + 1 := Nat.dvd_trans ⟨2 ^ c, by rw [Nat.pow_one]⟩ h2
  omega

/-- One step of the left part: L is a multiple of 2^(64-f-1). -/
structure LStep (f d M L c : Nat) : Prop where
  c63 : c ≤ 63
  cd : c < d
  fc : 64 - (f + 1) ≤ c
  le : 2 ^ c ≤ L
  dvd : 2 ^ (c + 1) ∣ L - 2 ^ c
  odd : ∃ m, M - L = 2 ^ c * (2 * m + 1)
  low : 2 ^ (c + 1) ∣ M - L + 2 ^ c

theorem lstep (f d M L : Nat) (_hf : f + 1 ≤ 64) (h0 : L ≠ 0) (hL : L < 2 ^ d) (hd : d ≤ 64) (hM : 2 ^ d ∣ M) (hLM : L ≤ M) (hdv : 2 ^ (64 - (f + 1)) ∣ L) : LStep f d M L (Lib.ctz 64 L) := by
  have hL64 : L < 2 ^ 64 := Nat.lt_of_lt_of_le hL (Nat.pow_le_pow_right (by omega) hd)
  obtain ⟨m, h1, h2⟩ := ctz_spec L h0 hL64
  generalize Lib.ctz 64 L = c at *
  have hle : 2 ^ c ≤ L := by rw [h1]; exact Nat.le_mul_of_pos_right _ (by omega)
  have hcd : c < d := by
    have : 2 ^ c < 2 ^ d := Nat.lt_of_le_of_lt hle hL
    exact (Nat.pow_lt_pow_iff_right (by omega)).1 this
  have hfc : 64 - (f + 1) ≤ c := by rw [h1] at hdv; exact pow_dvd_le hdv
  obtain ⟨u, hu⟩ := hM
  obtain ⟨e, he⟩ : ∃ e, d = c + 1 + e := ⟨d - c - 1, by omega⟩
  have hM2 : M = 2 ^ c * (2 * (2 ^ e * u)) := by rw [hu, he, Nat.pow_add, Nat.pow_add, Nat.pow_one, Nat.mul_assoc, Nat.mul_assoc]
  have hsub : L - 2 ^ c = 2 ^ (c + 1) * m := by
    rw [Nat.pow_succ, Nat.mul_assoc]
    rw [Nat.mul_add, Nat.mul_one] at h1
    omega
  have hlm : m < 2 ^ e * u := by
    rw [h1, hM2] at hLM
    have := Nat.le_of_mul_le_mul_left hLM (Nat.two_pow_pos c)
    omega
  have hodd : M - L = 2 ^ c * (2 * (2 ^ e * u - m - 1) + 1) := by
    rw [h1, hM2, ← Nat.mul_sub]
    congr 1
    omega
  refine ⟨by omega, hcd, hfc, hle, ?_, ⟨_, hodd⟩, ?_⟩
  · rw [hsub]
    exact Nat.dvd_mul_right _ _
  · rw [hodd]
    refine ⟨2 ^ e * u - m, ?_⟩
    rw [Nat.pow_succ, Nat.mul_assoc, ← Nat.mul_succ]
    congr 1
    omega

/-- One step of the right part: e - R is a multiple of 2^(f+1). -/
structure RStep (f e R c : Nat) : Prop where
  c63 : c ≤ 63
  cf : c ≤ f
  le : 2 ^ c ≤ R
  lt : R < 2 ^ (c + 1)
  rest : R - 2 ^ c < 2 ^ c
  even : ∃ m, e - R = 2 ^ c * (2 * m)
  dvd : 2 ^ c ∣ e - (R - 2 ^ c)

theorem rstep (f e R : Nat) (hf : f + 1 ≤ 64) (h0 : R ≠ 0) (hR : R < 2 ^ (f + 1)) (he : R ≤ e) (hd : 2 ^ (f + 1) ∣ e - R) : RStep f e R (Lib.bitLen R - 1) := by
  have hR64 : R < 2 ^ 64 := Nat.lt_of_lt_of_le hR (Nat.pow_le_pow_right (by omega) hf)
  obtain ⟨h1, h2, h3, h4⟩ := len_spec R h0 hR64
  obtain ⟨c, hc⟩ : ∃ c, Lib.bitLen R = c + 1 := ⟨Lib.bitLen R - 1, by omega⟩
  rw [hc] at h3 h4 ⊢
  rw [Nat.add_sub_cancel] at h3 ⊢
  have hcf : c ≤ f := by
    have : 2 ^ c < 2 ^ (f + 1) := Nat.lt_of_le_of_lt h3 hR
    have := (Nat.pow_lt_pow_iff_right (a := 2) (by omega)).1 this
    omega
  have hrest : R - 2 ^ c < 2 ^ c := by rw [Nat.pow_succ] at h4; omega
  obtain ⟨u, hu⟩ := hd
  obtain ⟨g, rfl⟩ : ∃ g, f = c + g := ⟨f - c, by omega⟩
  have hev : e - R = 2 ^ c * (2 * (2 ^ g * u)) := by
    rw [hu, show c + g + 1 = c + 1 + g by omega, Nat.pow_add, Nat.pow_succ, Nat.mul_assoc, Nat.mul_assoc]
  refine ⟨by omega, hcf, h3, h4, hrest, ⟨_, hev⟩, ⟨2 * (2 ^ g * u) + 1, ?_⟩⟩
  rw [Nat.mul_succ, ← hev]
  omega

/-- The fuel of the right part does not matter. -/
theorem rightN_fuel : ∀ (f g e R : Nat), f ≤ g → g ≤ 64 → R < 2 ^ f → rightN g e R = rightN f e R
  | 0, g, e, R, _, _, hR => by
    have : R = 0 := by simpa using hR
    subst this
    cases g <;> simp [rightN]
  | f + 1, g, e, R, hfg, hg, hR => by
    obtain ⟨g, rfl⟩ : ∃ h, g = h + 1 := ⟨g - 1, by omega⟩
    unfold rightN
    by_cases h0 : R = 0
    · rw [if_pos h0, if_pos h0]
    rw [if_neg h0, if_neg h0]
    congr 1
    have hR64 : R < 2 ^ 64 := Nat.lt_of_lt_of_le hR (Nat.pow_le_pow_right (by omega) (by omega))
    obtain ⟨h1, h2, h3, h4⟩ := len_spec R h0 hR64
    obtain ⟨c, hc⟩ : ∃ c, Lib.bitLen R = c + 1 := ⟨Lib.bitLen R - 1, by omega⟩
    rw [hc] at h3 h4 ⊢
    rw [Nat.add_sub_cancel] at h3 ⊢
    have hcf : c ≤ f := by
      have : 2 ^ c < 2 ^ (f + 1) := Nat.lt_of_le_of_lt h3 hR
      have := (Nat.pow_lt_pow_iff_right (a := 2) (by omega)).1 this
      omega
    have hlt : R - 2 ^ c < 2 ^ f := Nat.lt_of_lt_of_le (show R - 2 ^ c < 2 ^ c by rw [Nat.pow_succ] at h4; omega) (Nat.pow_le_pow_right (by omega) hcf)
    exact rightN_fuel f g e _ (by omega) (by omega) hlt

theorem leftN_len : ∀ (f M L : Nat), (leftN f M L).length ≤ f
  | 0, _, _ => by simp [leftN]
  | f + 1, M, L => by
    unfold leftN
    split
    · simp
    · simp only [List.length_cons]
      have := leftN_len f M (L - 2 ^ Lib.ctz 64 L)
      omega
theorem rightN_len : ∀ (f e R : Nat), (rightN f e R).length ≤ f
  | 0, _, _ => by simp [rightN]
  | f + 1, e, R => by
    unfold rightN
    split
    · simp
    · simp only [List.length_cons]
      have := rightN_len f e (R - 2 ^ (Lib.bitLen R - 1))
      omega

end Go.Proofs.YtfhcpniibiobgaaDoor.M
