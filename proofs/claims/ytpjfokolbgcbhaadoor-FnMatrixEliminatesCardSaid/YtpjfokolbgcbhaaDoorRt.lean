/- Values and roots of polynomials over the field; the bitwise product and its remainder. No program stands in it. -/
import Derived.Test.YtpjfokolbgcbhaaDoorF
namespace Go.Proofs.YtpjfokolbgcbhaaDoor

theorem xor_right_cancel (a b : Nat) : (a ^^^ b) ^^^ b = a := by rw [Nat.xor_assoc, Nat.xor_self, Nat.xor_zero]
theorem xor_mid (A B C : Nat) : (A ^^^ B) ^^^ (B ^^^ C) = A ^^^ C := by rw [← Nat.xor_assoc, xor_right_cancel]
theorem xor_swap (a b c d : Nat) : (a ^^^ b) ^^^ (c ^^^ d) = (a ^^^ c) ^^^ (b ^^^ d) := by
  rw [Nat.xor_assoc, Nat.xor_assoc, ← Nat.xor_assoc b c d, Nat.xor_comm b c, Nat.xor_assoc c b d]
theorem xor_eq_zero' {a b : Nat} (h : a ^^^ b = 0) : a = b := by
  have := xor_right_cancel a b
  rw [h, Nat.zero_xor] at this
  exact this.symm

theorem gmul_xor_left {a b : Nat} (c : Nat) (ha : a < 256) (hb : b < 256) (hc : c < 256) : gmul (a ^^^ b) c = gmul a c ^^^ gmul b c := by
  rw [gmul_comm, gmul_xor c hc ha hb, gmul_comm c a, gmul_comm c b]

/-- The value at x, by Horner. -/
def hv (x : Nat) : List Nat → Nat
  | [] => 0
  | c :: cs => gmul (hv x cs) x ^^^ c
theorem hv_lt (x : Nat) : ∀ cs : List Nat, (∀ c, c ∈ cs → c < 256) → hv x cs < 256
  | [], _ => by show 0 < 256; omega
  | c :: cs, h => xor_lt (gmul_lt _ _) (h c (List.mem_cons_self ..))
/-- The quotient by x - r. -/
def sd (r : Nat) : List Nat → List Nat
  | [] => []
  | _ :: cs => hv r cs :: sd r cs
theorem sd_lt (r : Nat) : ∀ cs : List Nat, (∀ c, c ∈ cs → c < 256) → ∀ c, c ∈ sd r cs → c < 256
  | [], _, c, hc => by cases hc
  | a :: cs, h, c, hc => by
    have ht : ∀ c, c ∈ cs → c < 256 := fun c hc => h c (List.mem_cons_of_mem _ hc)
    rw [sd, List.mem_cons] at hc
    rcases hc with rfl | hc
    · exact hv_lt r cs ht
    · exact sd_lt r cs ht c hc
theorem sd_hv (x r : Nat) (hx : x < 256) (hr : r < 256) : ∀ cs : List Nat, (∀ c, c ∈ cs → c < 256) → hv x cs = gmul (hv x (sd r cs)) (x ^^^ r) ^^^ hv r cs
  | [], _ => by show 0 = gmul 0 _ ^^^ 0; rw [gmul_zero_left]; rfl
  | c :: cs, h => by
    have ht : ∀ c, c ∈ cs → c < 256 := fun c hc => h c (List.mem_cons_of_mem _ hc)
    have ih := sd_hv x r hx hr cs ht
    have l1 := hv_lt x cs ht
    have l2 := hv_lt r cs ht
    have l3 := hv_lt x (sd r cs) (sd_lt r cs ht)
    show gmul (hv x cs) x ^^^ c = gmul (gmul (hv x (sd r cs)) x ^^^ hv r cs) (x ^^^ r) ^^^ (gmul (hv r cs) r ^^^ c)
    rw [gmul_xor_left _ (gmul_lt _ _) l2 (xor_lt hx hr)]
    have e1 : gmul (gmul (hv x (sd r cs)) x) (x ^^^ r) = gmul (hv x cs ^^^ hv r cs) x := by
      rw [← gmul_assoc, gmul_comm x, gmul_assoc]
      congr 1
      rw [ih, xor_right_cancel]
    rw [e1, gmul_xor_left _ l1 l2 hx, gmul_xor _ l2 hx hr]
    generalize gmul (hv x cs) x = A
    generalize gmul (hv r cs) x = B
    generalize gmul (hv r cs) r = C
    rw [xor_mid, xor_mid]
theorem hv_drop (x : Nat) : ∀ (cs : List Nat) (i : Nat), hv x (cs.drop i) = gmul (hv x (cs.drop (i + 1))) x ^^^ cs.getD i 0
  | [], i => by simp [hv, gmul_zero_left]
  | c :: cs, 0 => by simp [hv]
  | c :: cs, i + 1 => by
    have := hv_drop x cs i
    simpa using this
theorem sd_get (r : Nat) : ∀ (cs : List Nat) (i : Nat), (sd r cs).getD i 0 = hv r (cs.drop (i + 1))
  | [], i => by simp [sd, hv]
  | c :: cs, 0 => by simp [sd]
  | c :: cs, i + 1 => by
    have := sd_get r cs i
    simpa [sd] using this
theorem hv_high (x : Nat) (cs : List Nat) (d : Nat) (h : ∀ i, d ≤ i → cs.getD i 0 = 0) : ∀ n i, n + i = cs.length → d ≤ i → hv x (cs.drop i) = 0
  | 0, i, hn, _ => by rw [List.drop_eq_nil_of_le (by omega)]; rfl
  | n + 1, i, hn, hi => by
    rw [hv_drop, hv_high x cs d h n (i + 1) (by omega) (by omega), gmul_zero_left, h i hi]; rfl
theorem hv_high' (x : Nat) (cs : List Nat) (i : Nat) (h : ∀ j, i ≤ j → cs.getD j 0 = 0) : hv x (cs.drop i) = 0 := by
  by_cases hi : i ≤ cs.length
  · exact hv_high x cs i h (cs.length - i) i (by omega) (Nat.le_refl _)
  · rw [List.drop_eq_nil_of_le (by omega)]; rfl

/-- No more roots than the degree. -/
theorem roots_le : ∀ (d : Nat) (cs : List Nat), (∀ c, c ∈ cs → c < 256) → cs.getD d 0 ≠ 0 → (∀ i, d < i → cs.getD i 0 = 0) →
    ∀ l : List Nat, l.Nodup → (∀ x, x ∈ l → x < 256 ∧ hv x cs = 0) → l.length ≤ d
  | 0, cs, _, h0, hh, l, _, hl => by
    rcases l with _ | ⟨x, l⟩
    · exact Nat.le_refl _
    · exfalso
      have hx := (hl x (List.mem_cons_self ..)).2
      have e := hv_drop x cs 0
      rw [List.drop_zero, hx, hv_high' x cs 1 (fun j hj => hh j (by omega)), gmul_zero_left, Nat.zero_xor] at e
      exact h0 e.symm
  | d + 1, cs, h256, h0, hh, l, hn, hl => by
    rcases l with _ | ⟨r, l⟩
    · exact Nat.zero_le _
    · rw [List.nodup_cons] at hn
      have hr := hl r (List.mem_cons_self ..)
      have := roots_le d (sd r cs) (sd_lt r cs h256) (by
          rw [sd_get, hv_drop, hv_high' r cs (d + 1 + 1) (fun j hj => hh j (by omega)), gmul_zero_left, Nat.zero_xor]
          exact h0) (by
          intro i hi
          rw [sd_get]
          exact hv_high' r cs (i + 1) (fun j hj => hh j (by omega))) l hn.2 (by
          intro x hx
          have hx2 := hl x (List.mem_cons_of_mem _ hx)
          refine ⟨hx2.1, ?_⟩
          have e := sd_hv x r hx2.1 hr.1 cs h256
          rw [hx2.2, hr.2, Nat.xor_zero] at e
          rcases gmul_eq_zero e.symm with h | h
          · exact h
          · exfalso
            have := xor_eq_zero' h
            subst this
            exact hn.1 hx)
      rw [List.length_cons]; omega

/-- The product, bit by bit, and the remainder. -/
def prodN (a b : Nat) : Nat → Nat → Nat → Nat
  | 0, _, acc => acc
  | n + 1, i, acc => prodN a b n (i + 1) (if b / 2 ^ i % 2 = 1 then acc ^^^ (a * 2 ^ i) else acc)
def remN : Nat → Nat → Nat
  | 0, x => x
  | n + 1, x => remN n (if x / 2 ^ (n + 8) % 2 = 1 then x ^^^ (285 * 2 ^ n) else x)

theorem bit_xor (x y i : Nat) : (x ^^^ y) / 2 ^ i % 2 = (x / 2 ^ i % 2 + y / 2 ^ i % 2) % 2 := by
  have h := Nat.testBit_xor x y i
  rw [Nat.testBit_eq_decide_div_mod_eq, Nat.testBit_eq_decide_div_mod_eq, Nat.testBit_eq_decide_div_mod_eq] at h
  have a1 : (x ^^^ y) / 2 ^ i % 2 < 2 := Nat.mod_lt _ (by omega)
  have a2 : x / 2 ^ i % 2 < 2 := Nat.mod_lt _ (by omega)
  have a3 : y / 2 ^ i % 2 < 2 := Nat.mod_lt _ (by omega)
  generalize (x ^^^ y) / 2 ^ i % 2 = p at *
  generalize x / 2 ^ i % 2 = q at *
  generalize y / 2 ^ i % 2 = r at *
  rcases (show p = 0 ∨ p = 1 by omega) with rfl | rfl <;> rcases (show q = 0 ∨ q = 1 by omega) with rfl | rfl <;> rcases (show r = 0 ∨ r = 1 by omega) with rfl | rfl <;> simp at h ⊢
theorem remN_xor : ∀ n x y, remN n (x ^^^ y) = remN n x ^^^ remN n y
  | 0, _, _ => rfl
  | n + 1, x, y => by
    have hb := bit_xor x y (n + 8)
    have a2 : x / 2 ^ (n + 8) % 2 < 2 := Nat.mod_lt _ (by omega)
    have a3 : y / 2 ^ (n + 8) % 2 < 2 := Nat.mod_lt _ (by omega)
    unfold remN
    rw [← remN_xor n, hb]
    congr 1
    generalize x / 2 ^ (n + 8) % 2 = q at *
    generalize y / 2 ^ (n + 8) % 2 = r at *
    generalize 285 * 2 ^ n = m
    rcases (show q = 0 ∨ q = 1 by omega) with rfl | rfl <;> rcases (show r = 0 ∨ r = 1 by omega) with rfl | rfl <;> simp
    · rw [Nat.xor_assoc]
    · rw [Nat.xor_assoc, Nat.xor_assoc, Nat.xor_comm y m]
    · rw [xor_swap, Nat.xor_self, Nat.xor_zero]
theorem rem_tab : ((List.range 256).all fun a => (List.range 8).all fun i => remN 56 (a * 2 ^ i) == gmul a (2 ^ i)) = true := by decide +kernel
theorem bits_tab : ((List.range 256).all fun b => prodN 1 b 8 0 0 == b) = true := by decide +kernel
theorem rem_prod (a b : Nat) (ha : a < 256) : ∀ n i acc acc', n + i = 8 → acc' < 256 → remN 56 acc = gmul a acc' → remN 56 (prodN a b n i acc) = gmul a (prodN 1 b n i acc')
  | 0, _, _, _, _, _, h => h
  | n + 1, i, acc, acc', hn, hl, h => by
    unfold prodN
    apply rem_prod a b ha n (i + 1) _ _ (by omega)
    · split
      · rw [Nat.one_mul]
        exact xor_lt hl (Nat.lt_of_lt_of_le (Nat.pow_lt_pow_right (by omega) (show i < 8 by omega)) (by decide))
      · exact hl
    · split
      · have hi : 2 ^ i < 256 := Nat.lt_of_lt_of_le (Nat.pow_lt_pow_right (by omega) (show i < 8 by omega)) (by decide)
        have ht := List.all_eq_true.1 (List.all_eq_true.1 rem_tab a (List.mem_range.2 ha)) i (List.mem_range.2 (by omega))
        rw [beq_iff_eq] at ht
        rw [remN_xor, h, ht, Nat.one_mul, gmul_xor a ha hl hi]
      · exact h
theorem prodN_high (a b : Nat) : ∀ n i acc, b < 2 ^ i → prodN a b n i acc = acc
  | 0, _, _, _ => rfl
  | n + 1, i, acc, h => by
    unfold prodN
    rw [Nat.div_eq_of_lt h, if_neg (by omega)]
    exact prodN_high a b n (i + 1) acc (Nat.lt_of_lt_of_le h (Nat.pow_le_pow_right (by omega) (by omega)))
theorem prodN_add (a b : Nat) : ∀ m n i acc, prodN a b (m + n) i acc = prodN a b n (i + m) (prodN a b m i acc)
  | 0, n, i, acc => by rw [Nat.zero_add]; rfl
  | m + 1, n, i, acc => by
    rw [show m + 1 + n = (m + n) + 1 by omega]
    show prodN a b (m + n) (i + 1) _ = prodN a b n (i + (m + 1)) (prodN a b m (i + 1) _)
    rw [prodN_add a b m n (i + 1), show i + 1 + m = i + (m + 1) by omega]
theorem rem_prod_all (a b : Nat) (ha : a < 256) (hb : b < 256) : remN 56 (prodN a b 32 0 0) = gmul a b := by
  rw [show (32 : Nat) = 8 + 24 from rfl, prodN_add, prodN_high a b 24 (0 + 8) _ hb, rem_prod a b ha 8 0 0 0 (by omega) (by omega) (by rw [gmul_zero_right]; decide +kernel)]
  have ht := List.all_eq_true.1 bits_tab b (List.mem_range.2 hb)
  rw [beq_iff_eq] at ht
  rw [ht]
end Go.Proofs.YtpjfokolbgcbhaaDoor
