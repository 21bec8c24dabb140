/- The reference's root from a path is the program's; what the terms bind: plain. -/
import Derived.Test.YtfhcpniibiobgaaPm
namespace Go.Proofs.Ytfhcpniibiobgaa.Pure
open Go.RowKit Go.Proofs.YtfhcpniibiobgaaW.PrintWords Go.Proofs.YtfhcpniibiobgaaW.PrintMore Go.Proofs.YtfhcpniibiobgaaW.PrintLast
open Go.Proofs.Ytfhcpniibiobgaa.M (vlen inn pc vlen_left vlen_right vlen_one bitLen_at div_one)

/-- The root that a path leads to, from the top. -/
def rootF (a0 a2 a5 : Int) (x : Nat) : Nat → Nat → Nat → List Int → List (List Int) → List Int
  | 0, _, _, leaf, _ => leaf
  | T + 1, b, e, leaf, path =>
    if e - b = 1 then leaf else
    if x < b + 2 ^ Nat.log2 (e - b - 1) then hcF a0 a2 a5 (rootF a0 a2 a5 x T b (b + 2 ^ Nat.log2 (e - b - 1)) leaf (path.take (path.length - 1))) (path.getD (path.length - 1) [])
    else hcF a0 a2 a5 (path.getD (path.length - 1) []) (rootF a0 a2 a5 x T (b + 2 ^ Nat.log2 (e - b - 1)) e leaf (path.take (path.length - 1)))
theorem rootF_len (a0 a2 a5 : Int) (x : Nat) : ∀ (T b e : Nat) (leaf : List Int) (path : List (List Int)), (∀ h ∈ path, h.length ≤ 5000) → (rootF a0 a2 a5 x T b e leaf path).length ≤ leaf.length + 5009 * T
  | 0, _, _, leaf, _, _ => by simp [rootF]
  | T + 1, b, e, leaf, path, hp => by
    have hg : (path.getD (path.length - 1) []).length ≤ 5000 := by
      rw [List.getD_eq_getElem?_getD]
      rcases h : path[path.length - 1]? with _ | y
      · simp
      · exact hp y (List.mem_of_getElem? h)
    have ht : ∀ h ∈ path.take (path.length - 1), h.length ≤ 5000 := fun h hh => hp h (List.mem_of_mem_take hh)
    rw [rootF]
    split
    · omega
    · split
      · have := rootF_len a0 a2 a5 x T b (b + 2 ^ Nat.log2 (e - b - 1)) leaf (path.take (path.length - 1)) ht
        have := hcF_len a0 a2 a5 (rootF a0 a2 a5 x T b (b + 2 ^ Nat.log2 (e - b - 1)) leaf (path.take (path.length - 1))) (path.getD (path.length - 1) [])
        omega
      · have := rootF_len a0 a2 a5 x T (b + 2 ^ Nat.log2 (e - b - 1)) e leaf (path.take (path.length - 1)) ht
        have := hcF_len a0 a2 a5 (path.getD (path.length - 1) []) (rootF a0 a2 a5 x T (b + 2 ^ Nat.log2 (e - b - 1)) e leaf (path.take (path.length - 1)))
        omega

theorem chI_append (a0 a2 a5 ix : Int) : ∀ (l m : List (List Int)) (s : List Int) (i : Nat), chI a0 a2 a5 ix (l ++ m) s i = chI a0 a2 a5 ix m (chI a0 a2 a5 ix l s i) (i + l.length)
  | [], m, s, i => rfl
  | h :: t, m, s, i => by
    rw [List.cons_append, chI, chI, chI_append a0 a2 a5 ix t m, List.length_cons, show i + 1 + t.length = i + (t.length + 1) by omega]
theorem chB_append (a0 a2 a5 : Int) : ∀ (l m : List (List Int)) (s : List Int), chB a0 a2 a5 (l ++ m) s = chB a0 a2 a5 m (chB a0 a2 a5 l s)
  | [], m, s => rfl
  | h :: t, m, s => by rw [List.cons_append, chB, chB, chB_append a0 a2 a5 t m]
theorem chI_ones (a0 a2 a5 ix : Int) : ∀ (l : List (List Int)) (s : List Int) (i : Nat), (∀ j, i ≤ j → j < i + l.length → bitI ix j ≠ 0) → chI a0 a2 a5 ix l s i = chB a0 a2 a5 l s
  | [], s, i, _ => rfl
  | h :: t, s, i, hb => by
    rw [List.length_cons] at hb
    rw [chI, chB, if_neg (hb i (Nat.le_refl _) (by omega)), chI_ones a0 a2 a5 ix t _ (i + 1) (fun j h1 h2 => hb j (by omega) (by omega))]
theorem snoc_of (path : List (List Int)) (n : Nat) (h : path.length = n + 1) : path = path.take n ++ [path.getD n []] ∧ (path.take n).length = n := by
  refine ⟨?_, by rw [List.length_take]; omega⟩
  rw [List.getD_eq_getElem?_getD, List.getElem?_eq_getElem (by omega), Option.getD_some, ← List.take_succ_eq_append_getElem (by omega), List.take_of_length_le (by omega)]
theorem pow_add_mul (t u : Nat) (h : t ≤ u) : 2 ^ u = 2 ^ (u - t) * 2 ^ t := by rw [← Nat.pow_add]; congr 1; omega
theorem bit_sub (x c T i : Nat) (h : i < T) (hc : c * 2 ^ T ≤ x) : (x - c * 2 ^ T) / 2 ^ i % 2 = x / 2 ^ i % 2 := by
  have e : c * 2 ^ T = (c * 2 ^ (T - i - 1)) * 2 * 2 ^ i := by
    rw [Nat.mul_assoc, Nat.mul_assoc, ← Nat.pow_succ', ← Nat.pow_add]
    congr 2
    omega
  have hx : x = (x - c * 2 ^ T) + (c * 2 ^ (T - i - 1)) * 2 * 2 ^ i := by omega
  conv => rhs; rw [hx]
  rw [Nat.add_mul_div_right _ _ (Nat.two_pow_pos i)]
  omega
/-- Above the inner part of a perfect tree all bits are ones. -/
theorem ones_above (i t : Nat) (ht : t < 64) (hi : i < 2 ^ t) (j : Nat) (h1 : inn i (2 ^ t) ≤ j) (h2 : j < t) : i / 2 ^ j % 2 = 1 := by
  have h64 : 2 ^ t < 2 ^ 64 := Nat.pow_lt_pow_right (by omega) ht
  have hl := inn_lt i (2 ^ t) hi (by omega)
  have hle : 2 ^ inn i (2 ^ t) ≤ 2 ^ j := Nat.pow_le_pow_right (by omega) h1
  have e := (same_hi i (2 ^ t - 1) j).2 (by omega)
  have e2 : (2 ^ t - 1) / 2 ^ j = 2 ^ (t - j) - 1 := by
    have hs := pow_add_mul j t (by omega)
    have hp := Nat.two_pow_pos j
    have hq := Nat.two_pow_pos (t - j)
    rw [Nat.div_eq_iff hp, hs]
    have : (2 ^ (t - j) - 1) * 2 ^ j = 2 ^ (t - j) * 2 ^ j - 2 ^ j := by rw [Nat.sub_mul, Nat.one_mul]
    have : 2 ^ j ≤ 2 ^ (t - j) * 2 ^ j := Nat.le_mul_of_pos_left _ hq
    omega
  have e3 : 2 ^ (t - j) = 2 * 2 ^ (t - j - 1) := by rw [← Nat.pow_succ']; congr 1; omega
  have := Nat.two_pow_pos (t - j - 1)
  rw [e, e2, e3]
  omega
theorem inn_left {i n t : Nat} (ht : t < 64) (hi : i < 2 ^ t) (h1 : 2 ^ t < n) (h2 : n ≤ 2 ^ (t + 1)) (hn : n < 2 ^ 64) : inn i n = t + 1 := by
  have hx : (i ^^^ (n - 1)) / 2 ^ t = 1 := by
    rw [Nat.xor_div_two_pow, Nat.div_eq_of_lt hi, Nat.zero_xor]
    exact div_one (by omega) (by omega)
  have hp := Nat.two_pow_pos t
  have hq : 2 ^ (t + 1) = 2 * 2 ^ t := by rw [Nat.pow_succ, Nat.mul_comm]
  have hz := Nat.div_add_mod (i ^^^ (n - 1)) (2 ^ t)
  rw [hx, Nat.mul_one] at hz
  have hm := Nat.mod_lt (i ^^^ (n - 1)) hp
  have h64 : 2 ^ (t + 1) ≤ 2 ^ 64 := Nat.pow_le_pow_right (by omega) (by omega)
  exact bitLen_at (by omega) (by omega) (by omega)
theorem inn_right {i n t : Nat} (hi : 2 ^ t ≤ i) (hin : i < n) (h2 : n ≤ 2 ^ (t + 1)) : inn i n = inn (i - 2 ^ t) (n - 2 ^ t) := by
  have hp := Nat.two_pow_pos t
  have hq : 2 ^ (t + 1) = 2 * 2 ^ t := by rw [Nat.pow_succ, Nat.mul_comm]
  have e1 : i / 2 ^ t = 1 := div_one hi (by omega)
  have e2 : (n - 1) / 2 ^ t = 1 := div_one (by omega) (by omega)
  have m1 : i % 2 ^ t = i - 2 ^ t := by have := Nat.div_add_mod i (2 ^ t); rw [e1] at this; omega
  have m2 : (n - 1) % 2 ^ t = n - 2 ^ t - 1 := by have := Nat.div_add_mod (n - 1) (2 ^ t); rw [e2] at this; omega
  unfold inn
  congr 1
  have a := Nat.div_add_mod (i ^^^ (n - 1)) (2 ^ t)
  rw [Nat.xor_div_two_pow, e1, e2, Nat.xor_self, Nat.mul_zero, Nat.zero_add, Nat.xor_mod_two_pow, m1, m2] at a
  exact a.symm
theorem inn_vlen (i n : Nat) : inn i n ≤ vlen i n := Nat.le_add_right _ _

/-- The reference's root is the program's chains. -/
theorem rootF_ch (a0 a2 a5 : Int) (x : Nat) (hx64 : x < 18446744073709551616) : ∀ (T b e : Nat) (leaf : List Int) (path : List (List Int)), T ≤ 64 → b ≤ x → x < e → e < 18446744073709551616 → (∃ u c, u ≤ T ∧ b = c * 2 ^ u ∧ e - b ≤ 2 ^ u) → path.length = vlen (x - b) (e - b) →
    rootF a0 a2 a5 x T b e leaf path = chB a0 a2 a5 (path.drop (inn (x - b) (e - b))) (chI a0 a2 a5 (x : Int) (path.take (inn (x - b) (e - b))) leaf 0)
  | 0, b, e, leaf, path, hT, hb, hx, he, ⟨u, c, hu, hc, hw⟩, hpl => by
    obtain rfl : u = 0 := by omega
    have e1 : e - b = 1 := by simp at hw; omega
    rw [e1, show x - b = 0 by omega, vlen_one] at hpl
    obtain rfl : path = [] := List.length_eq_zero_iff.1 hpl
    simp [rootF, chB, chI]
  | T + 1, b, e, leaf, path, hT, hb, hx, he, ⟨u, c, hu, hc, hw⟩, hpl => by
    rw [rootF]
    by_cases h1 : e - b = 1
    · rw [if_pos h1]
      rw [h1, show x - b = 0 by omega, vlen_one] at hpl
      obtain rfl : path = [] := List.length_eq_zero_iff.1 hpl
      simp [chB, chI]
    · rw [if_neg h1]
      have n0 : e - b - 1 ≠ 0 := by omega
      have g1 : 2 ^ Nat.log2 (e - b - 1) < e - b := by
        have := Nat.log2_self_le n0
        omega
      have g2 : e - b ≤ 2 ^ (Nat.log2 (e - b - 1) + 1) := by
        have := Nat.lt_log2_self (n := e - b - 1)
        omega
      generalize Nat.log2 (e - b - 1) = t at g1 g2 ⊢
      have htu : t < u := (Nat.pow_lt_pow_iff_right (by omega : 1 < 2)).1 (Nat.lt_of_lt_of_le g1 hw)
      have hp := Nat.two_pow_pos t
      have hq : 2 ^ (t + 1) = 2 * 2 ^ t := by rw [Nat.pow_succ, Nat.mul_comm]
      have hcT : b = (c * 2 ^ (u - t)) * 2 ^ t := by rw [hc, Nat.mul_assoc, ← pow_add_mul t u (by omega)]
      have bits : ∀ i, i < t + 1 → bitI (x : Int) i = (((x - b) / 2 ^ i % 2 : Nat) : Int) := fun i hi => by
        rw [bitI_nat x i hx64, Nat.min_eq_left (by omega), hc, bit_sub x c u i (by omega) (hc ▸ hb)]
      by_cases hlt : x < b + 2 ^ t
      · rw [if_pos hlt]
        have hvl : vlen (x - b) (e - b) = t + 1 := vlen_left (by omega) (by omega) g1 g2 (by omega)
        have hin : inn (x - b) (e - b) = t + 1 := inn_left (by omega) (by omega) g1 g2 (by omega)
        obtain ⟨hs, hsl⟩ := snoc_of path t (by omega)
        have ih := rootF_ch a0 a2 a5 x hx64 T b (b + 2 ^ t) leaf (path.take t) (by omega) hb hlt (by omega) ⟨t, _, by omega, hcT, by omega⟩ (by rw [hsl, show b + 2 ^ t - b = 2 ^ t by omega, vlen_pow t (x - b) (by omega) (by omega)])
        rw [show b + 2 ^ t - b = 2 ^ t by omega] at ih
        rw [show path.length - 1 = t by omega, ih, hin, List.drop_eq_nil_of_le (show path.length ≤ t + 1 by omega), List.take_of_length_le (show path.length ≤ t + 1 by omega), chB]
        have hm : inn (x - b) (2 ^ t) ≤ t := by
          have := inn_vlen (x - b) (2 ^ t)
          rw [vlen_pow t (x - b) (by omega) (by omega)] at this
          exact this
        have e1 : chI a0 a2 a5 (x : Int) (path.take t) leaf 0 = chB a0 a2 a5 ((path.take t).drop (inn (x - b) (2 ^ t))) (chI a0 a2 a5 (x : Int) ((path.take t).take (inn (x - b) (2 ^ t))) leaf 0) := by
          conv => lhs; rw [← List.take_append_drop (inn (x - b) (2 ^ t)) (path.take t)]
          rw [chI_append, chI_ones]
          intro j h1 h2
          rw [List.length_take, List.length_drop] at h2
          rw [List.length_take] at h1
          rw [bits j (by omega), ones_above (x - b) t (by omega) (by omega) j (by omega) (by omega)]
          decide
        rw [← e1]
        conv => rhs; rw [hs]
        rw [chI_append, chI, chI, hsl, if_pos (by rw [bits _ (by omega), Nat.zero_add, Nat.div_eq_of_lt (by omega)]; rfl)]
      · rw [if_neg hlt]
        have hvl : vlen (x - b) (e - b) = vlen (x - b - 2 ^ t) (e - b - 2 ^ t) + 1 := vlen_right (by omega) (by omega) (by omega) g2
        have hin : inn (x - b) (e - b) = inn (x - b - 2 ^ t) (e - b - 2 ^ t) := inn_right (by omega) (by omega) g2
        obtain ⟨hs, hsl⟩ := snoc_of path _ (hpl.trans hvl)
        have ih := rootF_ch a0 a2 a5 x hx64 T (b + 2 ^ t) e leaf (path.take (path.length - 1)) (by omega) (by omega) hx he ⟨t, c * 2 ^ (u - t) + 1, by omega, by rw [Nat.add_mul, Nat.one_mul, ← hcT], by omega⟩ (by rw [List.length_take, hpl, hvl, show x - (b + 2 ^ t) = x - b - 2 ^ t by omega, show e - (b + 2 ^ t) = e - b - 2 ^ t by omega]; omega)
        rw [show x - (b + 2 ^ t) = x - b - 2 ^ t by omega, show e - (b + 2 ^ t) = e - b - 2 ^ t by omega] at ih
        rw [ih, hin, hpl, hvl, Nat.add_sub_cancel]
        have hm := inn_vlen (x - b - 2 ^ t) (e - b - 2 ^ t)
        generalize inn (x - b - 2 ^ t) (e - b - 2 ^ t) = m at hm
        generalize vlen (x - b - 2 ^ t) (e - b - 2 ^ t) = v at hm hs hsl
        conv => rhs; rw [hs]
        rw [List.drop_append_of_le_length (by omega), List.take_append_of_le_length (by omega), chB_append, chB, chB]

/-- With terms, two children are told from their hash. -/
theorem wordF_inj {x y : Int} (hx : 0 ≤ x ∧ x < 18446744073709551616) (hy : 0 ≤ y ∧ y < 18446744073709551616) (h : Hs.wordF x 8 = Hs.wordF y 8) : x = y := by
  have g : ∀ i, i < 8 → Hs.wb x 8 i = Hs.wb y 8 i := fun i hi => by
    have h1 : (Hs.wordF x 8)[i]? = (Hs.wordF y 8)[i]? := by rw [h]
    unfold Hs.wordF at h1
    rw [show Hs.wn 8 = 8 from rfl, List.getElem?_map, List.getElem?_map, List.getElem?_range hi] at h1
    simpa using h1
  have g0 := g 0 (by omega)
  have g1 := g 1 (by omega)
  have g2 := g 2 (by omega)
  have g3 := g 3 (by omega)
  have g4 := g 4 (by omega)
  have g5 := g 5 (by omega)
  have g6 := g 6 (by omega)
  have g7 := g 7 (by omega)
  simp only [Hs.wb] at g0 g1 g2 g3 g4 g5 g6 g7
  simp at g0 g1 g2 g3 g4 g5 g6 g7
  omega
theorem hcF_inj {a0 a2 a5 : Int} (h0 : a0 ≠ 1) {l1 l2 m1 m2 : List Int} (b1 : l1.length < 18446744073709551616) (b2 : m1.length < 18446744073709551616) (h : hcF a0 a2 a5 l1 l2 = hcF a0 a2 a5 m1 m2) : l1 = m1 ∧ l2 = m2 := by
  unfold hcF at h
  rw [if_neg h0, if_neg h0, List.append_assoc, List.append_assoc, List.append_assoc, List.append_assoc] at h
  have hl : ∀ y : Int, (Hs.wordF y 8).length = 8 := fun y => by unfold Hs.wordF; rw [List.length_map, List.length_range]; rfl
  obtain ⟨_, h⟩ := List.append_inj h rfl
  obtain ⟨hw, h⟩ := List.append_inj h (by rw [hl, hl])
  have := wordF_inj (by omega) (by omega) hw
  exact List.append_inj h (by omega)
theorem chB_inj {a0 a2 a5 : Int} (h0 : a0 ≠ 1) : ∀ (l m : List (List Int)) (s r : List Int), l.length = m.length → (∀ h ∈ l, h.length ≤ 5000) → (∀ h ∈ m, h.length ≤ 5000) → chB a0 a2 a5 l s = chB a0 a2 a5 m r → s = r ∧ l = m
  | [], [], s, r, _, _, _, h => ⟨h, rfl⟩
  | x :: l, y :: m, s, r, hl, bl, bm, h => by
    obtain ⟨e1, e2⟩ := chB_inj h0 l m _ _ (by simpa using hl) (fun z hz => bl z (by simp [hz])) (fun z hz => bm z (by simp [hz])) h
    have b1 := bl x (by simp)
    have b2 := bm y (by simp)
    obtain ⟨e3, e4⟩ := hcF_inj h0 (by omega) (by omega) e1
    exact ⟨e4, by rw [e3, e2]⟩
theorem chI_inj {a0 a2 a5 ix : Int} (h0 : a0 ≠ 1) : ∀ (l m : List (List Int)) (s r : List Int) (i : Nat), l.length = m.length → (∀ h ∈ l, h.length ≤ 5000) → (∀ h ∈ m, h.length ≤ 5000) → s.length + 5009 * l.length < 100000000 → r.length + 5009 * l.length < 100000000 → chI a0 a2 a5 ix l s i = chI a0 a2 a5 ix m r i → s = r ∧ l = m
  | [], [], s, r, i, _, _, _, _, _, h => ⟨h, rfl⟩
  | x :: l, y :: m, s, r, i, hl, bl, bm, bs, br, h => by
    have b1 := bl x (by simp)
    have b2 := bm y (by simp)
    rw [List.length_cons] at bs br
    rw [chI, chI] at h
    have hl' : l.length = m.length := by simpa using hl
    have q1 := hcF_len a0 a2 a5 s x
    have q2 := hcF_len a0 a2 a5 x s
    have q3 := hcF_len a0 a2 a5 r y
    have q4 := hcF_len a0 a2 a5 y r
    by_cases hb : bitI ix i = 0
    · rw [if_pos hb, if_pos hb] at h
      obtain ⟨e1, e2⟩ := chI_inj h0 l m _ _ (i + 1) hl' (fun z hz => bl z (by simp [hz])) (fun z hz => bm z (by simp [hz])) (by omega) (by omega) h
      obtain ⟨e3, e4⟩ := hcF_inj h0 (by omega) (by omega) e1
      exact ⟨e3, by rw [e4, e2]⟩
    · rw [if_neg hb, if_neg hb] at h
      obtain ⟨e1, e2⟩ := chI_inj h0 l m _ _ (i + 1) hl' (fun z hz => bl z (by simp [hz])) (fun z hz => bm z (by simp [hz])) (by omega) (by omega) h
      obtain ⟨e3, e4⟩ := hcF_inj h0 (by omega) (by omega) e1
      exact ⟨e4, by rw [e3, e2]⟩
end Go.Proofs.Ytfhcpniibiobgaa.Pure
