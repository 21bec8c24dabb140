/- The parts beside the way from a node of a log up to its root, and the nodes of which they are made. No program stands in it. -/
import Derived.Test.YtmcelgfekffinaaDoorCh
namespace Go.Proofs.YtmcelgfekffinaaDoor.M
open Go

/-- Each range of numbers below 2^64 has its list. -/
theorem isN_ex (b e : Nat) (hbe : b ≤ e) (he : e < 2 ^ 64) : ∃ W, IsN b e W ∧ W.length ≤ 128 := by
  have hex : ∃ L R X d, Cut b e L R X d := by
    by_cases hb0 : b = 0
    · subst hb0
      exact ⟨0, e, 0, 64, by omega, by omega, by omega, by simp, by omega, he⟩
    obtain ⟨d, q, h1, h2, h3, h4, h5, h6, h7, h8⟩ := cut b e (by omega) hbe he
    exact ⟨2 ^ d - 1 - (b - 1) % 2 ^ d, e % 2 ^ d, 2 ^ d * q, d, h6, h5.symm, by omega, Nat.dvd_mul_right _ _, by
      have := Nat.two_pow_pos d
      omega, h8⟩
  obtain ⟨L, R, X, d, h⟩ := hex
  refine ⟨nodesN X e L R, isN_cut h, ?_⟩
  have h1 := leftN_len 64 X L
  have h2 := rightN_len 64 e R
  rw [nodesN, List.length_append]
  omega

/-- The siblings of a node and of those above it. -/
def sibs : Nat → Nat → Nat → List (Nat × Nat)
  | 0, _, _ => []
  | c + 1, l, i => (l, i ^^^ 1) :: sibs c (l + 1) (i / 2)
theorem sibs_length : ∀ (c l i : Nat), (sibs c l i).length = c
  | 0, _, _ => rfl
  | c + 1, l, i => by rw [sibs, List.length_cons, sibs_length c]
theorem sibs_last : ∀ (c l i : Nat), sibs (c + 1) l i = sibs c l i ++ [(l + c, (i / 2 ^ c) ^^^ 1)]
  | 0, l, i => by simp [sibs]
  | c + 1, l, i => by
    rw [sibs, sibs_last c (l + 1) (i / 2), sibs]
    rw [Nat.div_div_eq_div_mul, ← Nat.pow_succ', show l + 1 + c = l + (c + 1) by omega]
    rfl
theorem xor1_even {n : Nat} (h : n % 2 = 0) : n ^^^ 1 = n + 1 := by
  have h2 : (n ^^^ 1) / 2 = n / 2 := by
    rw [Nat.xor_div_two]; simp
  have h3 : (n ^^^ 1) % 2 = 1 := by
    rw [Nat.xor_mod_two_eq_one]
    omega
  omega
theorem xor1_odd {n : Nat} (h : n % 2 = 1) : n ^^^ 1 = n - 1 := by
  have h2 : (n ^^^ 1) / 2 = n / 2 := by
    rw [Nat.xor_div_two]; simp
  have h3 : ¬ (n ^^^ 1) % 2 = 1 := by
    rw [Nat.xor_mod_two_eq_one]
    omega
  omega

/-- The exponent of the greatest power of two that is less than n. -/
def tp (n : Nat) : Nat := Nat.log2 (n - 1)
theorem tp_lt {n : Nat} (h : 2 ≤ n) : 2 ^ tp n < n := by
  have := Nat.log2_self_le (show n - 1 ≠ 0 by omega)
  unfold tp
  omega
theorem tp_le {n : Nat} (h : 2 ≤ n) : n ≤ 2 ^ (tp n + 1) := by
  have := Nat.lt_log2_self (n := n - 1)
  unfold tp
  omega
theorem tp_uniq {n t : Nat} (h1 : 2 ^ t < n) (h2 : n ≤ 2 ^ (t + 1)) : tp n = t := by
  unfold tp
  have h0 := Nat.two_pow_pos t
  exact (Nat.log2_eq_iff (by omega)).2 ⟨by omega, by omega⟩

/-- The parts beside the way from the part [y, x) up to [b, e). -/
def partsN : Nat → Nat → Nat → Nat → Nat → List (Nat × Nat)
  | 0, _, _, _, _ => []
  | F + 1, y, x, b, e =>
    if b = y ∧ e = x then [] else
    if x ≤ b + 2 ^ tp (e - b) then partsN F y x b (b + 2 ^ tp (e - b)) ++ [(b + 2 ^ tp (e - b), e)]
    else partsN F y x (b + 2 ^ tp (e - b)) e ++ [(b, b + 2 ^ tp (e - b))]

/-- What is covered so far, the nodes so far, and where those of the part that is made of several are. -/
structure PSt where
  p0 : Nat
  p1 : Nat
  ids : List (Nat × Nat)
  B : Nat
  E : Nat
/-- One part more. -/
inductive PStep : PSt → Nat × Nat → PSt → Prop
  | left {s : PSt} {b t : Nat} : s.p0 = b + 2 ^ t → 2 ^ t ∣ b → PStep s (b, b + 2 ^ t) ⟨b, s.p1, s.ids ++ [(t, b / 2 ^ t)], s.B, s.E⟩
  | same {s : PSt} {t : Nat} : s.p1 = s.p0 + 2 ^ t → 2 ^ t ∣ s.p1 → PStep s (s.p1, s.p1 + 2 ^ t) ⟨s.p0, s.p1 + 2 ^ t, s.ids ++ [(t, s.p1 / 2 ^ t)], s.B, s.E⟩
  | short {s : PSt} {e : Nat} {W : List (Nat × Nat)} : s.p0 ≤ s.p1 → s.p1 < e → e - s.p1 < s.p1 - s.p0 → IsN s.p1 e W → PStep s (s.p1, e) ⟨s.p0, e, s.ids ++ W.reverse, s.ids.length, s.ids.length + W.length⟩
inductive PSteps : PSt → List (Nat × Nat) → PSt → Prop
  | nil {s : PSt} : PSteps s [] s
  | snoc {s s' s'' : PSt} {P : List (Nat × Nat)} {q : Nat × Nat} : PSteps s P s' → PStep s' q s'' → PSteps s (P ++ [q]) s''

/-- Where the way of the node (l, i) in [b, e) leaves the perfect tree. -/
structure PIn (l i b e c u r : Nat) : Prop where
  lo : i / 2 ^ c * 2 ^ (l + c) = b + 2 * u * 2 ^ (l + c)
  hi : e = b + (2 * u + 1) * 2 ^ (l + c) + r
  r : r < 2 ^ (l + c)

theorem pow_odd {L t u r : Nat} (hr : r < 2 ^ L) (h : (2 * u + 1) * 2 ^ L + r = 2 ^ t) : L = t ∧ u = 0 ∧ r = 0 := by
  have hLt : L ≤ t := by
    have h1 : 2 ^ L ≤ 2 ^ t := by
      have : 2 ^ L ≤ (2 * u + 1) * 2 ^ L := Nat.le_mul_of_pos_left _ (by omega)
      omega
    exact (Nat.pow_le_pow_iff_right (by omega)).1 h1
  obtain ⟨d, rfl⟩ : ∃ d, t = L + d := ⟨t - L, by omega⟩
  rw [Nat.pow_add] at h
  have h0 := Nat.two_pow_pos L
  have hr0 : r = 0 := by
    have h1 : r % 2 ^ L = 0 := by
      have h2 : ((2 * u + 1) * 2 ^ L + r) % 2 ^ L = 0 := by rw [h]; exact Nat.mul_mod_right _ _
      rw [Nat.mul_comm, Nat.mul_add_mod] at h2
      exact h2
    rw [Nat.mod_eq_of_lt hr] at h1
    exact h1
  subst hr0
  rw [Nat.add_zero, Nat.mul_comm] at h
  have h3 := Nat.eq_of_mul_eq_mul_left h0 h
  cases d with
  | zero =>
    rw [Nat.pow_zero] at h3
    exact ⟨rfl, by omega, rfl⟩
  | succ d => rw [Nat.pow_succ] at h3; omega

theorem isN_nil (b : Nat) : IsN b b [] := ⟨rfl, fun _ h => by cases h⟩
theorem isN_same {b : Nat} {W : List (Nat × Nat)} (h : IsN b b W) : W = [] := isN_uniq h (isN_nil b)

theorem isN_one {b t : Nat} (h : 2 ^ t ∣ b) {e : Nat} (he : e = b + 2 ^ t) : IsN b e [(t, b / 2 ^ t)] := by
  subst he
  have e1 : 2 ^ t * (b / 2 ^ t) = b := Nat.mul_div_cancel' h
  refine ⟨⟨e1.symm, ?_⟩, ?_⟩
  · show 2 ^ t * (b / 2 ^ t + 1) = b + 2 ^ t
    rw [Nat.mul_add, e1, Nat.mul_one]
  · intro x hx
    obtain rfl := List.mem_singleton.1 hx
    refine ⟨⟨Nat.le_of_eq e1.symm, Nat.le_of_eq ?_⟩, ?_⟩
    · show 2 ^ t * (b / 2 ^ t + 1) = b + 2 ^ t
      rw [Nat.mul_add, e1, Nat.mul_one]
    · rintro ⟨h1, h2⟩
      have h3 : 2 ^ (t + 1) * (b / 2 ^ t / 2 + 1) = 2 ^ (t + 1) * (b / 2 ^ t / 2) + 2 ^ (t + 1) := by rw [Nat.mul_add, Nat.mul_one]
      have h4 : 2 ^ (t + 1) * (b / 2 ^ t / 2 + 1) ≤ b + 2 ^ t := h2
      have h5 : b ≤ 2 ^ (t + 1) * (b / 2 ^ t / 2) := h1
      rw [h3] at h4
      have h6 : 2 ^ (t + 1) = 2 * 2 ^ t := Nat.pow_succ'
      have := Nat.two_pow_pos t
      generalize 2 ^ (t + 1) * (b / 2 ^ t / 2) = A at h4 h5
      omega

theorem isN_cons {b t k m : Nat} {W : List (Nat × Nat)} (hb : 2 ^ (t + 1) ∣ b) (hk : k = b + 2 ^ t) (hm : m < k + 2 ^ t) (h : IsN k m W) : IsN b m ((t, b / 2 ^ t) :: W) := by
  have hb' : 2 ^ t ∣ b := Nat.dvd_trans (Nat.pow_dvd_pow 2 (Nat.le_succ t)) hb
  have e1 : 2 ^ t * (b / 2 ^ t) = b := Nat.mul_div_cancel' hb'
  have h0 := Nat.two_pow_pos t
  have hkm := chain_le h.chain
  refine ⟨⟨e1.symm, ?_⟩, ?_⟩
  · show Chain (2 ^ t * (b / 2 ^ t + 1)) m W
    rw [Nat.mul_add, e1, Nat.mul_one, ← hk]
    exact h.chain
  · intro x hx
    rcases List.mem_cons.1 hx with rfl | hx
    · refine ⟨⟨Nat.le_of_eq e1.symm, ?_⟩, ?_⟩
      · show 2 ^ t * (b / 2 ^ t + 1) ≤ m
        rw [Nat.mul_add, e1, Nat.mul_one]
        omega
      · rintro ⟨_, h2⟩
        have e2 : 2 ^ (t + 1) * (b / 2 ^ t / 2) = b := by
          rw [Nat.div_div_eq_div_mul, ← Nat.pow_succ]
          exact Nat.mul_div_cancel' hb
        have h3 : 2 ^ (t + 1) * (b / 2 ^ t / 2 + 1) ≤ m := h2
        rw [Nat.mul_add, e2, Nat.mul_one] at h3
        have h6 : 2 ^ (t + 1) = 2 * 2 ^ t := Nat.pow_succ'
        omega
    · obtain ⟨h1, h2⟩ := h.mx x hx
      refine ⟨⟨by have := h1.1; omega, h1.2⟩, ?_⟩
      rintro ⟨h3, h4⟩
      refine h2 ⟨?_, h4⟩
      have hx1 : 2 ^ x.1 < 2 ^ t := by
        have := h1.1
        have := h1.2
        rw [Nat.mul_add] at this
        omega
      have hxt : x.1 < t := (Nat.pow_lt_pow_iff_right (by omega)).1 hx1
      have hdk : 2 ^ (x.1 + 1) ∣ k := by
        rw [hk]
        exact Nat.dvd_add (Nat.dvd_trans (Nat.pow_dvd_pow 2 (by omega)) hb') (Nat.pow_dvd_pow 2 (by omega))
      obtain ⟨v, hv⟩ := hdk
      have hlo := h1.1
      rw [hv, Nat.pow_succ, Nat.mul_assoc] at hlo
      have hle : 2 * v ≤ x.2 := Nat.le_of_mul_le_mul_left hlo (Nat.two_pow_pos _)
      rw [hv]
      exact Nat.mul_le_mul_left _ (by omega)

theorem half_odd {q : Nat} (h : q % 2 = 1) : q / 2 * 2 = q - 1 := by omega
theorem half_even {q : Nat} (h : q % 2 = 0) : q / 2 * 2 = q := by omega
/-- THE WAY UP: the parts that split a log, from the node up, make just the nodes that the bits say. -/
theorem walkN (l i : Nat) (s0 : PSt) (h0 : s0.p0 = i * 2 ^ l) (h1 : s0.p1 = (i + 1) * 2 ^ l) : ∀ (F T b e : Nat), T ≤ F → 2 ^ T ∣ b → e - b ≤ 2 ^ T → b ≤ i * 2 ^ l → (i + 1) * 2 ^ l ≤ e → e < 2 ^ 64 →
    ∃ c u r Rt Lf, PIn l i b e c u r ∧ IsN ((i / 2 ^ c + 1) * 2 ^ (l + c)) e Rt ∧ IsN b (i / 2 ^ c * 2 ^ (l + c)) Lf ∧
      PSteps s0 (partsN F (i * 2 ^ l) ((i + 1) * 2 ^ l) b e) ⟨b, e, s0.ids ++ sibs c l i ++ Rt.reverse ++ Lf.reverse, if Rt.length = 0 then s0.B else s0.ids.length + c, if Rt.length = 0 then s0.E else s0.ids.length + c + Rt.length⟩ := by
  have hP := Nat.two_pow_pos l
  have hbase : ∀ (F b e : Nat), b = i * 2 ^ l → e = (i + 1) * 2 ^ l → ∃ c u r Rt Lf, PIn l i b e c u r ∧ IsN ((i / 2 ^ c + 1) * 2 ^ (l + c)) e Rt ∧ IsN b (i / 2 ^ c * 2 ^ (l + c)) Lf ∧
      PSteps s0 (partsN F (i * 2 ^ l) ((i + 1) * 2 ^ l) b e) ⟨b, e, s0.ids ++ sibs c l i ++ Rt.reverse ++ Lf.reverse, if Rt.length = 0 then s0.B else s0.ids.length + c, if Rt.length = 0 then s0.E else s0.ids.length + c + Rt.length⟩ := by
    rintro F b e rfl rfl
    refine ⟨0, 0, 0, [], [], ⟨by simp, by simp [Nat.add_mul], hP⟩, by simpa using isN_nil _, by simpa using isN_nil _, ?_⟩
    have hp : partsN F (i * 2 ^ l) ((i + 1) * 2 ^ l) (i * 2 ^ l) ((i + 1) * 2 ^ l) = [] := by
      cases F with
      | zero => rfl
      | succ F => rw [partsN, if_pos ⟨rfl, rfl⟩]
    rw [hp]
    have e0 : (⟨i * 2 ^ l, (i + 1) * 2 ^ l, s0.ids ++ sibs 0 l i ++ ([] : List (Nat × Nat)).reverse ++ ([] : List (Nat × Nat)).reverse, if ([] : List (Nat × Nat)).length = 0 then s0.B else s0.ids.length + 0, if ([] : List (Nat × Nat)).length = 0 then s0.E else s0.ids.length + 0 + ([] : List (Nat × Nat)).length⟩ : PSt) = s0 := by
      rw [← h0, ← h1]
      simp [sibs]
    rw [e0]
    exact PSteps.nil
  intro F
  induction F with
  | zero =>
    intro T b e hT hd hn hb he _
    obtain rfl : T = 0 := by omega
    have hn1 : e - b ≤ 1 := by simpa using hn
    have e1 : (i + 1) * 2 ^ l = i * 2 ^ l + 2 ^ l := by rw [Nat.add_mul, Nat.one_mul]
    rw [e1] at he
    exact hbase 0 b e (by omega) (by rw [e1]; omega)
  | succ F ih =>
    intro T b e hT hd hn hb he h64
    by_cases hbe : b = i * 2 ^ l ∧ e = (i + 1) * 2 ^ l
    · exact hbase (F + 1) b e hbe.1 hbe.2
    have e1 : (i + 1) * 2 ^ l = i * 2 ^ l + 2 ^ l := by rw [Nat.add_mul, Nat.one_mul]
    have hn2 : 2 ^ l < e - b := by rw [e1] at he hbe; omega
    have g1 := tp_lt (n := e - b) (by omega)
    have g2 := tp_le (n := e - b) (by omega)
    have hpart : partsN (F + 1) (i * 2 ^ l) ((i + 1) * 2 ^ l) b e = if (i + 1) * 2 ^ l ≤ b + 2 ^ tp (e - b) then partsN F (i * 2 ^ l) ((i + 1) * 2 ^ l) b (b + 2 ^ tp (e - b)) ++ [(b + 2 ^ tp (e - b), e)] else partsN F (i * 2 ^ l) ((i + 1) * 2 ^ l) (b + 2 ^ tp (e - b)) e ++ [(b, b + 2 ^ tp (e - b))] := by
      rw [partsN, if_neg hbe]
    rw [hpart]
    clear hpart
    generalize tp (e - b) = t at *
    have htT : t < T := by
      have : 2 ^ t < 2 ^ T := Nat.lt_of_lt_of_le g1 hn
      exact (Nat.pow_lt_pow_iff_right (by omega)).1 this
    have hlt : l ≤ t := by
      have : 2 ^ l < 2 ^ (t + 1) := Nat.lt_of_lt_of_le hn2 g2
      have := (Nat.pow_lt_pow_iff_right (a := 2) (by omega)).1 this
      omega
    have hb1 : 2 ^ (t + 1) ∣ b := Nat.dvd_trans (Nat.pow_dvd_pow 2 htT) hd
    have hb0 : 2 ^ t ∣ b := Nat.dvd_trans (Nat.pow_dvd_pow 2 (Nat.le_succ t)) hb1
    have ht0 := Nat.two_pow_pos t
    obtain ⟨k, hk⟩ : ∃ k, k = b + 2 ^ t := ⟨_, rfl⟩
    have hkd : 2 ^ t ∣ k := by rw [hk]; exact Nat.dvd_add hb0 (Nat.dvd_refl _)
    rw [← hk]
    by_cases hx : (i + 1) * 2 ^ l ≤ k
    · -- to the left
      rw [if_pos hx]
      obtain ⟨c, u, r, Rt, Lf, hp, hR, hL, hS⟩ := ih t b k (by omega) hb0 (by omega) hb hx (by omega)
      have hpo := pow_odd hp.r (show (2 * u + 1) * 2 ^ (l + c) + r = 2 ^ t by have := hp.hi; omega)
      obtain ⟨rfl, rfl, rfl⟩ := hpo
      have elo : i / 2 ^ c * 2 ^ (l + c) = b := by have := hp.lo; omega
      have ehi : (i / 2 ^ c + 1) * 2 ^ (l + c) = k := by rw [Nat.add_mul, elo]; omega
      rw [ehi] at hR
      rw [elo] at hL
      obtain rfl := isN_same hR
      obtain rfl := isN_same hL
      simp only [List.reverse_nil, List.append_nil, List.length_nil, if_pos] at hS
      have hdivk : k / 2 ^ (l + c) = i / 2 ^ c + 1 := by rw [← ehi]; exact Nat.mul_div_cancel _ ht0
      by_cases hr : e - k = 2 ^ (l + c)
      · -- as long
        have heven : i / 2 ^ c % 2 = 0 := by
          obtain ⟨v, hv⟩ := hb1
          rw [← elo, Nat.pow_succ, Nat.mul_assoc, Nat.mul_comm (2 ^ (l + c))] at hv
          have := Nat.eq_of_mul_eq_mul_right ht0 hv
          omega
        have hhalf : i / 2 ^ (c + 1) * 2 ^ (l + (c + 1)) = b := by
          rw [Nat.pow_succ, ← Nat.div_div_eq_div_mul, show l + (c + 1) = l + c + 1 by omega, Nat.pow_succ, Nat.mul_comm (2 ^ (l + c)) 2, ← Nat.mul_assoc, half_even heven]
          exact elo
        have hpow : 2 ^ (l + (c + 1)) = 2 ^ (l + c) * 2 := by rw [show l + (c + 1) = l + c + 1 by omega, Nat.pow_succ]
        refine ⟨c + 1, 0, 0, [], [], ⟨by rw [hhalf]; omega, by rw [hpow]; omega, by rw [hpow]; omega⟩, ?_, ?_, ?_⟩
        · rw [Nat.add_mul, hhalf, hpow, show b + 1 * (2 ^ (l + c) * 2) = e by omega]; exact isN_nil e
        · rw [hhalf]; exact isN_nil b
        · have hst := PSteps.snoc hS (PStep.same (t := l + c) (by show k = b + _; omega) hkd)
          simp only at hst
          rw [hdivk] at hst
          rw [show k + 2 ^ (l + c) = e by omega] at hst
          simp only [List.reverse_nil, List.append_nil, List.length_nil, if_pos]
          rw [sibs_last, xor1_even heven, ← List.append_assoc]
          exact hst
      · -- shorter
        obtain ⟨W, hW, _⟩ := isN_ex k e (by omega) h64
        refine ⟨c, 0, e - k, W, [], ⟨by rw [elo]; omega, by omega, by rw [Nat.pow_succ] at g2; omega⟩, by rw [ehi]; exact hW, by rw [elo]; exact isN_nil b, ?_⟩
        have hst := PSteps.snoc hS (PStep.short (e := e) (by show b ≤ k; omega) (by show k < e; omega) (by show e - k < k - b; rw [Nat.pow_succ] at g2; omega) hW)
        have hWl : W.length ≠ 0 := by
          intro h
          obtain rfl := List.eq_nil_of_length_eq_zero h
          have : k = e := hW.chain
          omega
        rw [if_neg hWl, if_neg hWl]
        simp only [List.length_append, sibs_length] at hst
        simpa using hst
    · -- to the right
      rw [if_neg hx]
      have hy : k ≤ i * 2 ^ l := by
        obtain ⟨v, hv⟩ := Nat.dvd_trans (Nat.pow_dvd_pow 2 hlt) hkd
        rw [hv, Nat.mul_comm (2 ^ l) v] at hx ⊢
        have h3 : v < i + 1 := by
          rcases Nat.lt_or_ge v (i + 1) with h | h
          · exact h
          · exact absurd (Nat.mul_le_mul_right (2 ^ l) h) hx
        exact Nat.mul_le_mul_right _ (by omega)
      rw [Nat.pow_succ] at g2
      obtain ⟨c, u, r, Rt, Lf, hp, hR, hL, hS⟩ := ih t k e (by omega) hkd (by omega) hy he h64
      have hkb : k / 2 ^ t = b / 2 ^ t + 1 := by rw [hk, Nat.add_div_right _ ht0]
      have hst := PSteps.snoc hS (PStep.left (b := b) (t := t) (by show k = b + 2 ^ t; omega) hb0)
      rw [← hk] at hst
      simp only at hst
      by_cases hr : e - k = 2 ^ t
      · have hpo := pow_odd hp.r (show (2 * u + 1) * 2 ^ (l + c) + r = 2 ^ t by have := hp.hi; omega)
        obtain ⟨rfl, rfl, rfl⟩ := hpo
        have elo : i / 2 ^ c * 2 ^ (l + c) = k := by have := hp.lo; omega
        have ehi : (i / 2 ^ c + 1) * 2 ^ (l + c) = e := by rw [Nat.add_mul, elo]; omega
        rw [ehi] at hR
        rw [elo] at hL
        obtain rfl := isN_same hR
        obtain rfl := isN_same hL
        have hdivk : k / 2 ^ (l + c) = i / 2 ^ c := by rw [← elo]; exact Nat.mul_div_cancel _ ht0
        have hodd : i / 2 ^ c % 2 = 1 := by
          obtain ⟨v, hv⟩ := hb1
          have hbv : b / 2 ^ (l + c) = 2 * v := by
            rw [hv, Nat.pow_succ, Nat.mul_assoc]
            exact Nat.mul_div_cancel_left _ ht0
          omega
        have hbq : b = (i / 2 ^ c - 1) * 2 ^ (l + c) := by
          rw [Nat.sub_mul, elo]; omega
        have hhalf : i / 2 ^ (c + 1) * 2 ^ (l + (c + 1)) = b := by
          rw [Nat.pow_succ, ← Nat.div_div_eq_div_mul, show l + (c + 1) = l + c + 1 by omega, Nat.pow_succ, Nat.mul_comm (2 ^ (l + c)) 2, ← Nat.mul_assoc, half_odd hodd]
          exact hbq.symm
        have hpow : 2 ^ (l + (c + 1)) = 2 ^ (l + c) * 2 := by rw [show l + (c + 1) = l + c + 1 by omega, Nat.pow_succ]
        refine ⟨c + 1, 0, 0, [], [], ⟨by rw [hhalf]; omega, by rw [hpow]; omega, by rw [hpow]; omega⟩, ?_, ?_, ?_⟩
        · rw [Nat.add_mul, hhalf, hpow, show b + 1 * (2 ^ (l + c) * 2) = e by omega]; exact isN_nil e
        · rw [hhalf]; exact isN_nil b
        · simp only [List.reverse_nil, List.append_nil, List.length_nil, if_pos] at hst ⊢
          rw [sibs_last, xor1_odd hodd, ← List.append_assoc, show i / 2 ^ c - 1 = b / 2 ^ (l + c) by rw [← hdivk, hkb]; rfl]
          exact hst
      · have hLt : l + c < t := by
          have h3 : 2 ^ (l + c) < 2 ^ t := by
            have := hp.hi
            have h4 : 2 ^ (l + c) ≤ (2 * u + 1) * 2 ^ (l + c) := Nat.le_mul_of_pos_left _ (by omega)
            omega
          exact (Nat.pow_lt_pow_iff_right (by omega)).1 h3
        have hpt : 2 * 2 ^ (t - (l + c) - 1) * 2 ^ (l + c) = 2 ^ t := by
          rw [← Nat.pow_succ', ← Nat.pow_add]
          congr 1
          omega
        refine ⟨c, u + 2 ^ (t - (l + c) - 1), r, Rt, (t, b / 2 ^ t) :: Lf, ⟨?_, ?_, hp.r⟩, hR, ?_, ?_⟩
        · rw [Nat.mul_add, Nat.add_mul, hpt]
          have h5 := hp.lo
          generalize 2 * u * 2 ^ (l + c) = A at *
          omega
        · rw [show 2 * (u + 2 ^ (t - (l + c) - 1)) + 1 = 2 * 2 ^ (t - (l + c) - 1) + (2 * u + 1) by omega, Nat.add_mul, hpt]
          have h5 := hp.hi
          generalize (2 * u + 1) * 2 ^ (l + c) = A at *
          omega
        · refine isN_cons hb1 hk ?_ hL
          have h5 := hp.lo
          have h6 := hp.hi
          rw [Nat.add_mul, Nat.one_mul] at h6
          have h7 := Nat.two_pow_pos (l + c)
          generalize 2 * u * 2 ^ (l + c) = A at *
          omega
        · rw [List.reverse_cons, ← List.append_assoc]
          exact hst
/-- In a whole log. -/
theorem walk0 (l i s : Nat) (s0 : PSt) (h0 : s0.p0 = i * 2 ^ l) (h1 : s0.p1 = (i + 1) * 2 ^ l) (hs : s < 2 ^ 64) (hi : (i + 1) * 2 ^ l ≤ s) :
    ∃ c Rt Lf, i / 2 ^ c % 2 = 0 ∧ s / 2 ^ (l + c) = i / 2 ^ c + 1 ∧ IsN ((i / 2 ^ c + 1) * 2 ^ (l + c)) s Rt ∧ IsN 0 (i / 2 ^ c * 2 ^ (l + c)) Lf ∧
      PSteps s0 (partsN 64 (i * 2 ^ l) ((i + 1) * 2 ^ l) 0 s) ⟨0, s, s0.ids ++ sibs c l i ++ Rt.reverse ++ Lf.reverse, if Rt.length = 0 then s0.B else s0.ids.length + c, if Rt.length = 0 then s0.E else s0.ids.length + c + Rt.length⟩ := by
  obtain ⟨c, u, r, Rt, Lf, hp, hR, hL, hS⟩ := walkN l i s0 h0 h1 64 64 0 s (Nat.le_refl _) (Nat.dvd_zero _) (by omega) (Nat.zero_le _) hi hs
  have hP := Nat.two_pow_pos (l + c)
  have hq : i / 2 ^ c = 2 * u := by
    have h2 := hp.lo
    rw [Nat.zero_add] at h2
    exact Nat.eq_of_mul_eq_mul_right hP h2
  refine ⟨c, Rt, Lf, by omega, ?_, hR, hL, hS⟩
  have h3 := hp.hi
  have h4 := hp.r
  rw [h3, Nat.zero_add, hq, Nat.mul_comm, Nat.mul_add_div hP, Nat.div_eq_of_lt h4, Nat.add_zero]

/-- There is one such place. -/
theorem fork_one {l i s c c' : Nat} (e1 : i / 2 ^ c % 2 = 0) (t1 : s / 2 ^ (l + c) = i / 2 ^ c + 1) (e2 : i / 2 ^ c' % 2 = 0) (t2 : s / 2 ^ (l + c') = i / 2 ^ c' + 1) : c = c' := by
  have key : ∀ {c c' : Nat}, c < c' → i / 2 ^ c % 2 = 0 → s / 2 ^ (l + c) = i / 2 ^ c + 1 → s / 2 ^ (l + c') = i / 2 ^ c' + 1 → False := by
    intro c c' hlt e1 t1 t2
    obtain ⟨d, rfl⟩ : ∃ d, c' = c + 1 + d := ⟨c' - c - 1, by omega⟩
    have h1 : s / 2 ^ (l + (c + 1 + d)) = s / 2 ^ (l + c) / 2 / 2 ^ d := by
      rw [Nat.div_div_eq_div_mul, Nat.div_div_eq_div_mul, ← Nat.pow_succ', ← Nat.pow_add]
      congr 2
      omega
    have h2 : i / 2 ^ (c + 1 + d) = i / 2 ^ c / 2 / 2 ^ d := by
      rw [Nat.div_div_eq_div_mul, Nat.div_div_eq_div_mul, ← Nat.pow_succ', ← Nat.pow_add]
      congr 2
      omega
    have h3 : s / 2 ^ (l + c) / 2 = i / 2 ^ c / 2 := by rw [t1]; omega
    rw [h1, h2, h3] at t2
    omega
  rcases Nat.lt_trichotomy c c' with h | h | h
  · exact (key h e1 t1 t2).elim
  · exact h
  · exact (key h e2 t2 t1).elim
end Go.Proofs.YtmcelgfekffinaaDoor.M
