/- The field of 256 elements, as the two tables make it: plain arithmetic. No program stands in it. -/
import Derived.Test.YtpjfokolbgcbhaaDoorTab
namespace Go.Proofs.YtpjfokolbgcbhaaDoor

/-- Powers of x, their exponents modulo 255. -/
def E (i : Nat) : Nat := expL.getD (i % 255) 0
def Lg (a : Nat) : Nat := logL.getD a 0

theorem tab_back : ((List.range 256).all fun a => a == 0 || expL.getD (logL.getD a 0) 0 == a) = true := by decide +kernel
theorem tab_forth : ((List.range 255).all fun i => logL.getD (expL.getD i 0) 0 == i && expL.getD i 0 != 0) = true := by decide +kernel

theorem E_Lg {a : Nat} (h0 : a ≠ 0) (h : a < 256) : E (Lg a) = a := by
  have := List.all_eq_true.1 tab_back a (List.mem_range.2 h)
  unfold E Lg
  rw [Nat.mod_eq_of_lt (log_lt a)]
  simp only [Bool.or_eq_true, beq_iff_eq] at this
  rcases this with h1 | h1
  · exact absurd h1 h0
  · exact h1
theorem Lg_E (i : Nat) : Lg (E i) = i % 255 := by
  have := List.all_eq_true.1 tab_forth (i % 255) (List.mem_range.2 (Nat.mod_lt _ (by omega)))
  simp only [Bool.and_eq_true, beq_iff_eq] at this
  exact this.1
theorem E_ne (i : Nat) : E i ≠ 0 := by
  have := List.all_eq_true.1 tab_forth (i % 255) (List.mem_range.2 (Nat.mod_lt _ (by omega)))
  simp only [Bool.and_eq_true, bne_iff_ne, ne_eq] at this
  exact this.2
theorem E_lt (i : Nat) : E i < 256 := exp_lt _
theorem Lg_lt (a : Nat) : Lg a < 255 := log_lt a
theorem E_mod (i : Nat) : E (i % 255) = E i := by unfold E; rw [Nat.mod_mod]
theorem E_zero : E 0 = 1 := by decide +kernel
theorem Lg_one : Lg 1 = 0 := by decide +kernel

theorem gmul_zero_left (b : Nat) : gmul 0 b = 0 := by unfold gmul; rw [if_pos rfl]
theorem gmul_zero_right (a : Nat) : gmul a 0 = 0 := by unfold gmul; split <;> simp
theorem gmul_ne {a b : Nat} (ha : a ≠ 0) (hb : b ≠ 0) : gmul a b = E (Lg a + Lg b) := by
  have la := Lg_lt a
  have lb := Lg_lt b
  unfold gmul
  rw [if_neg ha, if_neg hb]
  unfold E
  show (if 255 ≤ Lg a + Lg b then expL.getD (Lg a + Lg b - 255) 0 else expL.getD (Lg a + Lg b) 0) = _
  by_cases h : 255 ≤ Lg a + Lg b
  · rw [if_pos h, Nat.mod_eq_sub_mod h, Nat.mod_eq_of_lt (by omega)]
  · rw [if_neg h, Nat.mod_eq_of_lt (by omega)]
theorem gmul_comm (a b : Nat) : gmul a b = gmul b a := by
  by_cases ha : a = 0
  · subst ha; rw [gmul_zero_left, gmul_zero_right]
  by_cases hb : b = 0
  · subst hb; rw [gmul_zero_left, gmul_zero_right]
  rw [gmul_ne ha hb, gmul_ne hb ha, Nat.add_comm]
theorem gmul_lt (a b : Nat) : gmul a b < 256 := by
  by_cases ha : a = 0
  · subst ha; rw [gmul_zero_left]; omega
  by_cases hb : b = 0
  · subst hb; rw [gmul_zero_right]; omega
  rw [gmul_ne ha hb]; exact E_lt _
theorem gmul_E (i j : Nat) : gmul (E i) (E j) = E (i + j) := by
  rw [gmul_ne (E_ne i) (E_ne j), Lg_E, Lg_E, ← E_mod (i + j), ← E_mod (i % 255 + j % 255)]
  congr 1
  omega
theorem gmul_eq_zero {a b : Nat} (h : gmul a b = 0) : a = 0 ∨ b = 0 := by
  by_cases ha : a = 0
  · exact .inl ha
  by_cases hb : b = 0
  · exact .inr hb
  rw [gmul_ne ha hb] at h
  exact absurd h (E_ne _)
theorem gmul_assoc (a b c : Nat) : gmul a (gmul b c) = gmul (gmul a b) c := by
  by_cases ha : a = 0
  · subst ha; rw [gmul_zero_left, gmul_zero_left, gmul_zero_left]
  by_cases hb : b = 0
  · subst hb; rw [gmul_zero_left, gmul_zero_right, gmul_zero_left]
  by_cases hc : c = 0
  · subst hc; rw [gmul_zero_right, gmul_zero_right, gmul_zero_right]
  rw [gmul_ne hb hc, gmul_ne ha hb, gmul_ne ha (E_ne _), gmul_ne (E_ne _) hc, Lg_E, Lg_E, ← E_mod, ← E_mod ((Lg a + Lg b) % 255 + Lg c)]
  congr 1
  omega
theorem gmul_one {a : Nat} (h : a < 256) : gmul a 1 = a := by
  by_cases ha : a = 0
  · subst ha; exact gmul_zero_left 1
  rw [gmul_ne ha (by omega), Lg_one, Nat.add_zero, E_Lg ha h]

/-- Multiplying by x. -/
def xt (b : Nat) : Nat := (2 * b) ^^^ (if b.testBit 7 then 285 else 0)
theorem xt_tab : ((List.range 256).all fun b => gmul 2 b == xt b) = true := by decide +kernel
theorem gmul_two {b : Nat} (h : b < 256) : gmul 2 b = xt b := by
  have := List.all_eq_true.1 xt_tab b (List.mem_range.2 h)
  simpa using this
theorem two_mul_xor (b c : Nat) : 2 * (b ^^^ c) = (2 * b) ^^^ (2 * c) := by
  have := Nat.shiftLeft_xor_distrib (a := b) (b := c) (i := 1)
  simp only [Nat.shiftLeft_eq, Nat.pow_one] at this
  rw [Nat.mul_comm 2, Nat.mul_comm 2, Nat.mul_comm 2]
  exact this
theorem xt_xor (b c : Nat) : xt (b ^^^ c) = xt b ^^^ xt c := by
  unfold xt
  rw [Nat.testBit_xor, two_mul_xor]
  have hx : ∀ u v m : Nat, u ^^^ v = (u ^^^ m) ^^^ (v ^^^ m) := by
    intro u v m
    rw [Nat.xor_assoc, ← Nat.xor_assoc m v m, Nat.xor_comm m v, Nat.xor_assoc v m m, Nat.xor_self, Nat.xor_zero]
  cases b.testBit 7 <;> cases c.testBit 7 <;> simp
  · rw [Nat.xor_assoc]
  · rw [Nat.xor_assoc, Nat.xor_assoc, Nat.xor_comm (2 * c) 285]
  · exact hx _ _ _

def xts : Nat → Nat → Nat
  | 0, b => b
  | i + 1, b => xt (xts i b)
theorem xts_xor (i b c : Nat) : xts i (b ^^^ c) = xts i b ^^^ xts i c := by
  induction i with
  | zero => rfl
  | succ i ih => rw [xts, ih, xt_xor]; rfl
theorem E_one : E 1 = 2 := by decide +kernel
theorem gmul_xts (i : Nat) {b : Nat} (h : b < 256) : gmul (E i) b = xts i b := by
  induction i with
  | zero => rw [E_zero, gmul_comm, gmul_one h]; rfl
  | succ i ih =>
    have hlt : xts i b < 256 := by rw [← ih]; exact gmul_lt _ _
    rw [Nat.add_comm, ← gmul_E, E_one, ← gmul_assoc, ih, gmul_two hlt, Nat.add_comm]
    rfl
theorem xor_lt {b c : Nat} (hb : b < 256) (hc : c < 256) : b ^^^ c < 256 := Nat.xor_lt_two_pow (n := 8) hb hc
theorem gmul_xor (a : Nat) {b c : Nat} (ha : a < 256) (hb : b < 256) (hc : c < 256) : gmul a (b ^^^ c) = gmul a b ^^^ gmul a c := by
  by_cases h0 : a = 0
  · subst h0; rw [gmul_zero_left, gmul_zero_left, gmul_zero_left]; rfl
  rw [← E_Lg h0 ha, gmul_xts _ (xor_lt hb hc), gmul_xts _ hb, gmul_xts _ hc, xts_xor]

theorem gexp_ne {a n : Nat} (h0 : a ≠ 0) : gexp a n = E (Lg a * n) := by
  unfold gexp
  by_cases hn : n = 0
  · subst hn; rw [if_pos rfl, Nat.mul_zero, E_zero]
  rw [if_neg hn, if_neg h0]
  show expL.getD (if Lg a * n < 255 then Lg a * n else (Lg a * n) % 255) 0 = expL.getD (Lg a * n % 255) 0
  split
  · rename_i h; rw [Nat.mod_eq_of_lt h]
  · rfl
theorem gexp_zero {n : Nat} : gexp 0 n = if n = 0 then 1 else 0 := by
  unfold gexp; split <;> simp
theorem gexp_lt (a n : Nat) : gexp a n < 256 := by
  by_cases h : a = 0
  · subst h; rw [gexp_zero]; split <;> omega
  · rw [gexp_ne h]; exact E_lt _
theorem gexp_add (a m n : Nat) : gexp a (m + n) = gmul (gexp a m) (gexp a n) := by
  by_cases h : a = 0
  · subst h
    rw [gexp_zero, gexp_zero, gexp_zero]
    by_cases hm : m = 0
    · subst hm
      rw [Nat.zero_add, if_pos rfl, gmul_comm, gmul_one (by split <;> omega)]
    · rw [if_neg (by omega), if_neg hm, gmul_zero_left]
  · rw [gexp_ne h, gexp_ne h, gexp_ne h, gmul_E, Nat.mul_add]
theorem gexp_mul (a m n : Nat) : gexp a (m * n) = gexp (gexp a m) n := by
  by_cases h : a = 0
  · subst h
    rw [gexp_zero, gexp_zero]
    by_cases hm : m = 0
    · subst hm
      rw [Nat.zero_mul, if_pos rfl, gexp_ne (by omega), Lg_one, Nat.zero_mul, E_zero]
    · rw [if_neg hm, gexp_zero]
      by_cases hn : n = 0
      · subst hn; simp
      · rw [if_neg hn, if_neg (by intro h; rcases Nat.mul_eq_zero.1 h with h | h <;> omega)]
  · rw [gexp_ne h, gexp_ne h, gexp_ne (E_ne _), Lg_E, ← E_mod (Lg a * m % 255 * n), Nat.mod_mul_mod, E_mod, Nat.mul_assoc]

end Go.Proofs.YtpjfokolbgcbhaaDoor
