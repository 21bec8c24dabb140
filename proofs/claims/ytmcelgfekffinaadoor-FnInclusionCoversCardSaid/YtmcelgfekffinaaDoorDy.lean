/- The nodes of a range are the greatest ones inside it. No program stands in it. -/
import Derived.Test.YtmcelgfekffinaaDoorL
namespace Go.Proofs.YtmcelgfekffinaaDoor.M
open Go

/-- The node of level l and index i lies inside the range from b to e. -/
def In (b e l i : Nat) : Prop := b ≤ 2 ^ l * i ∧ 2 ^ l * (i + 1) ≤ e
/-- And its parent does not. -/
def Mx (b e l i : Nat) : Prop := In b e l i ∧ ¬ In b e (l + 1) (i / 2)

theorem div_lo (p l : Nat) : 2 ^ l * (p / 2 ^ l) ≤ p := Nat.mul_div_le p _
theorem div_hi (p l : Nat) : p < 2 ^ l * (p / 2 ^ l + 1) := by
  have h1 := Nat.div_add_mod p (2 ^ l)
  have h2 := Nat.mod_lt p (Nat.two_pow_pos l)
  rw [Nat.mul_add, Nat.mul_one]; omega
theorem div_of {p l i : Nat} (h1 : 2 ^ l * i ≤ p) (h2 : p < 2 ^ l * (i + 1)) : p / 2 ^ l = i := by
  rw [Nat.div_eq_iff (Nat.two_pow_pos l)]
  rw [Nat.mul_comm i]
  rw [Nat.mul_add, Nat.mul_one] at h2
  omega
theorem half_div (p l : Nat) : p / 2 ^ (l + 1) = p / 2 ^ l / 2 := by rw [Nat.div_div_eq_div_mul, ← Nat.pow_succ]

theorem in_half {b e l i : Nat} (h : In b e (l + 1) (i / 2)) : In b e l i := by
  obtain ⟨h1, h2⟩ := h
  rw [Nat.pow_succ, Nat.mul_assoc] at h1 h2
  constructor
  · exact Nat.le_trans h1 (Nat.mul_le_mul_left _ (by omega))
  · exact Nat.le_trans (Nat.mul_le_mul_left _ (by omega)) h2
theorem in_down {b e p l : Nat} (h : In b e (l + 1) (p / 2 ^ (l + 1))) : In b e l (p / 2 ^ l) := by
  rw [half_div] at h
  exact in_half h
theorem in_le {b e p : Nat} : ∀ {l k : Nat}, In b e (l + k) (p / 2 ^ (l + k)) → In b e l (p / 2 ^ l)
  | _, 0, h => h
  | _, k + 1, h => in_le (k := k) (in_down h)
theorem in_mono {b e p l l' : Nat} (hl : l ≤ l') (h : In b e l' (p / 2 ^ l')) : In b e l (p / 2 ^ l) := by
  obtain ⟨k, rfl⟩ : ∃ k, l' = l + k := ⟨l' - l, by omega⟩
  exact in_le h
/-- One greatest node over a leaf. -/
theorem mx_one {b e p l l' : Nat} (h : Mx b e l (p / 2 ^ l)) (h' : Mx b e l' (p / 2 ^ l')) : l = l' := by
  have key : ∀ {l l' : Nat}, l < l' → Mx b e l (p / 2 ^ l) → Mx b e l' (p / 2 ^ l') → False := by
    intro l l' hl h h'
    have := in_mono (l := l + 1) (by omega) h'.1
    rw [half_div] at this
    exact h.2 this
  rcases Nat.lt_trichotomy l l' with hl | hl | hl
  · exact (key hl h h').elim
  · exact hl
  · exact (key hl h' h).elim
theorem in_start (l i : Nat) : 2 ^ l * i / 2 ^ l = i := Nat.mul_div_cancel_left _ (Nat.two_pow_pos l)

/-- The left nodes: greatest, odd, of growing levels. -/
theorem leftN_mx (b e M d : Nat) (hd : d ≤ 64) (hM : 2 ^ d ∣ M) (hMe : M ≤ e) : ∀ (f L j : Nat), f ≤ 64 → L < 2 ^ d → L ≤ M → b ≤ M - L → 64 - f ≤ j → 2 ^ j ∣ L → M - L < b + 2 ^ j →
    ∀ x, x ∈ leftN f M L → Mx b e x.1 x.2 ∧ x.2 % 2 = 1 ∧ j ≤ x.1 ∧ x.1 < 64
  | 0, _, _, _, _, _, _, _, _, _, x, hx => by simp [leftN] at hx
  | f + 1, L, j, hf, hL, hLM, hb, hj, hdv, hlow, x, hx => by
    by_cases h0 : L = 0
    · subst h0; simp [leftN] at hx
    have hs := lstep f d M L hf h0 hL hd hM hLM (Nat.dvd_trans (Nat.pow_dvd_pow 2 hj) hdv)
    rw [leftN, if_neg h0, List.mem_cons] at hx
    have hL64 : L < 2 ^ 64 := Nat.lt_of_lt_of_le hL (Nat.pow_le_pow_right (by omega) hd)
    have hjc : j ≤ Lib.ctz 64 L := by
      obtain ⟨m, h1, _⟩ := ctz_spec L h0 hL64
      rw [h1] at hdv
      exact pow_dvd_le hdv
    generalize Lib.ctz 64 L = c at *
    obtain ⟨c63, cd, fc, le, dvd, ⟨m, odd⟩, low⟩ := hs
    have hp : 2 ^ j ≤ 2 ^ c := Nat.pow_le_pow_right (by omega) hjc
    rcases hx with rfl | hx
    · have hq : (M - L) / 2 ^ c = 2 * m + 1 := by rw [odd, Nat.mul_div_cancel_left _ (Nat.two_pow_pos c)]
      simp only [hq]
      refine ⟨⟨⟨?_, ?_⟩, ?_⟩, by omega, hjc, by omega⟩
      · rw [← odd]; exact hb
      · rw [Nat.mul_add (2 ^ c) (2 * m + 1) 1, ← odd]; omega
      · intro h
        have h2 := h.1
        rw [show (2 * m + 1) / 2 = m by omega, Nat.pow_succ, Nat.mul_assoc] at h2
        rw [Nat.mul_add, Nat.mul_one] at odd
        omega
    · have hsub : M - (L - 2 ^ c) = M - L + 2 ^ c := by omega
      have h2 : 2 ^ (c + 1) = 2 ^ c + 2 ^ c := by rw [Nat.pow_succ]; omega
      obtain ⟨r1, r2, r3, r4⟩ := leftN_mx b e M d hd hM hMe f (L - 2 ^ c) (c + 1) (by omega) (by omega) (by omega) (by omega) (by omega) dvd (by omega) x hx
      exact ⟨r1, r2, by omega, r4⟩

/-- They differ. -/
theorem leftN_nodup (M d : Nat) (hd : d ≤ 64) (hM : 2 ^ d ∣ M) : ∀ (f L : Nat), f ≤ 64 → L < 2 ^ d → L ≤ M → 2 ^ (64 - f) ∣ L → (leftN f M L).Nodup ∧ ∀ j, 2 ^ j ∣ L → 64 - f ≤ j → ∀ x, x ∈ leftN f M L → j ≤ x.1
  | 0, _, _, _, _, _ => by simp [leftN]
  | f + 1, L, hf, hL, hLM, hdv => by
    by_cases h0 : L = 0
    · subst h0; simp [leftN]
    have hs := lstep f d M L hf h0 hL hd hM hLM hdv
    have hL64 : L < 2 ^ 64 := Nat.lt_of_lt_of_le hL (Nat.pow_le_pow_right (by omega) hd)
    obtain ⟨m', hm', _⟩ := ctz_spec L h0 hL64
    rw [leftN, if_neg h0]
    generalize Lib.ctz 64 L = c at *
    obtain ⟨c63, cd, fc, le, dvd, _, _⟩ := hs
    have ih := leftN_nodup M d hd hM f (L - 2 ^ c) (by omega) (by omega) (by omega) (Nat.dvd_trans (Nat.pow_dvd_pow 2 (by omega)) dvd)
    refine ⟨?_, ?_⟩
    · rw [List.nodup_cons]
      refine ⟨fun hc => ?_, ih.1⟩
      have := ih.2 (c + 1) dvd (by omega) _ hc
      simp only at this
      omega
    · intro j hj hfj x hx
      rw [hm'] at hj
      have hjc := pow_dvd_le hj
      rw [List.mem_cons] at hx
      rcases hx with rfl | hx
      · exact hjc
      · have := ih.2 (c + 1) dvd (by omega) _ hx
        omega

theorem leftN_cover (b M d : Nat) (hd : d ≤ 64) (hM : 2 ^ d ∣ M) : ∀ (f L : Nat), f ≤ 64 → L < 2 ^ d → L ≤ M → 2 ^ (64 - f) ∣ L →
    ∀ p, M - L ≤ p → p < M → ∃ l, (l, p / 2 ^ l) ∈ leftN f M L
  | 0, L, _, hL, _, hdv, p, h1, h2 => by
    have h0 : L = 0 := Nat.eq_zero_of_dvd_of_lt hdv (Nat.lt_of_lt_of_le hL (Nat.pow_le_pow_right (by omega) hd))
    omega
  | f + 1, L, hf, hL, hLM, hdv, p, h1, h2 => by
    by_cases h0 : L = 0
    · omega
    have hs := lstep f d M L hf h0 hL hd hM hLM hdv
    rw [leftN, if_neg h0]
    generalize Lib.ctz 64 L = c at *
    obtain ⟨c63, cd, fc, le, dvd, ⟨m, odd⟩, low⟩ := hs
    by_cases hp : p < M - L + 2 ^ c
    · refine ⟨c, ?_⟩
      rw [List.mem_cons]
      left
      congr 1
      rw [odd, Nat.mul_div_cancel_left _ (Nat.two_pow_pos c)]
      apply div_of
      · rw [← odd]; exact h1
      · rw [Nat.mul_add (2 ^ c) (2 * m + 1) 1, ← odd]; omega
    · obtain ⟨l, hl⟩ := leftN_cover b M d hd hM f (L - 2 ^ c) (by omega) (by omega) (by omega) (Nat.dvd_trans (Nat.pow_dvd_pow 2 (by omega)) dvd) p (by omega) h2
      exact ⟨l, List.mem_cons_of_mem _ hl⟩

/-- The right nodes: greatest, even, of falling levels; they differ; they cover. -/
theorem rightN_all (b e : Nat) : ∀ (f R : Nat), f ≤ 64 → R < 2 ^ f → R ≤ e → b ≤ e - R → 2 ^ f ∣ e - R →
    (rightN f e R).Nodup ∧ (∀ x, x ∈ rightN f e R → Mx b e x.1 x.2 ∧ x.2 % 2 = 0 ∧ x.1 < f) ∧ ∀ p, e - R ≤ p → p < e → ∃ l, (l, p / 2 ^ l) ∈ rightN f e R := by
  intro f
  induction f using Nat.strongRecOn with
  | _ f ih =>
  intro R hf hR hRe hb hdv
  by_cases h0 : R = 0
  · subst h0
    have : rightN f e 0 = [] := by cases f <;> simp [rightN]
    rw [this]
    refine ⟨by simp, by simp, ?_⟩
    intro p h1 h2; omega
  obtain ⟨f, rfl⟩ : ∃ g, f = g + 1 := by
    refine ⟨f - 1, ?_⟩
    rcases Nat.eq_zero_or_pos f with h | h
    · subst h; simp at hR; omega
    · omega
  have hs := rstep f e R hf h0 hR hRe hdv
  have hun : rightN (f + 1) e R = (Lib.bitLen R - 1, (e - R) / 2 ^ (Lib.bitLen R - 1)) :: rightN f e (R - 2 ^ (Lib.bitLen R - 1)) := by
    rw [rightN, if_neg h0]
  rw [hun]
  generalize Lib.bitLen R - 1 = c at *
  obtain ⟨c63, cf, le, lt, rest, ⟨m, even⟩, dvd⟩ := hs
  have hsub : e - (R - 2 ^ c) = e - R + 2 ^ c := by omega
  have hfuel : rightN f e (R - 2 ^ c) = rightN c e (R - 2 ^ c) := rightN_fuel c f e _ cf (by omega) rest
  obtain ⟨i1, i2, i3⟩ := ih c (by omega) (R - 2 ^ c) (by omega) rest (by omega) (by omega) dvd
  rw [hfuel]
  have hq : (e - R) / 2 ^ c = 2 * m := by rw [even, Nat.mul_div_cancel_left _ (Nat.two_pow_pos c)]
  refine ⟨?_, ?_, ?_⟩
  · rw [List.nodup_cons]
    refine ⟨fun hc => ?_, i1⟩
    have := (i2 _ hc).2.2
    simp only at this
    omega
  · intro x hx
    rw [List.mem_cons] at hx
    rcases hx with rfl | hx
    · simp only [hq]
      refine ⟨⟨⟨?_, ?_⟩, ?_⟩, by omega, by omega⟩
      · rw [← even]; exact hb
      · rw [Nat.mul_add (2 ^ c) (2 * m) 1, ← even]; omega
      · intro h
        have h2 := h.2
        rw [show 2 * m / 2 = m by omega, Nat.pow_succ, Nat.mul_assoc, show 2 * (m + 1) = 2 * m + 2 by omega, Nat.mul_add, ← even] at h2
        rw [Nat.pow_succ] at lt
        omega
    · obtain ⟨r1, r2, r3⟩ := i2 x hx
      exact ⟨r1, r2, by omega⟩
  · intro p h1 h2
    by_cases hp : p < e - R + 2 ^ c
    · refine ⟨c, ?_⟩
      rw [List.mem_cons]
      left
      congr 1
      rw [even, Nat.mul_div_cancel_left _ (Nat.two_pow_pos c)]
      apply div_of
      · rw [← even]; exact h1
      · rw [Nat.mul_add (2 ^ c) (2 * m) 1, ← even]; omega
    · obtain ⟨l, hl⟩ := i3 p (by omega) h2
      exact ⟨l, List.mem_cons_of_mem _ hl⟩

/-- The cut of a range. -/
structure Cut (b e L R M d : Nat) : Prop where
  lo : b + L = M
  hi : M + R = e
  d64 : d ≤ 64
  dvd : 2 ^ d ∣ M
  l : L < 2 ^ d
  r : R < 2 ^ d

section
variable {b e L R M d : Nat}
theorem nodesN_eq (h : Cut b e L R M d) : nodesN M e L R = leftN 64 M L ++ rightN d e R := by
  rw [nodesN, rightN_fuel d 64 e R h.d64 (by omega) h.r]
theorem right_facts (h : Cut b e L R M d) : (rightN d e R).Nodup ∧ (∀ x, x ∈ rightN d e R → Mx b e x.1 x.2 ∧ x.2 % 2 = 0 ∧ x.1 < d) ∧ ∀ p, e - R ≤ p → p < e → ∃ l, (l, p / 2 ^ l) ∈ rightN d e R := rightN_all b e d R h.d64 h.r (by have := h.hi; omega) (by have := h.hi; have := h.lo; omega) (by
  have h1 := h.hi
  rw [show e - R = M by omega]; exact h.dvd)
theorem nodesN_mx (h : Cut b e L R M d) {x : Nat × Nat} (hx : x ∈ nodesN M e L R) : Mx b e x.1 x.2 ∧ x.1 < 64 := by
  have h1 := h.hi
  have h2 := h.lo
  have h3 := h.d64
  rw [nodesN_eq h, List.mem_append] at hx
  rcases hx with hx | hx
  · obtain ⟨r1, _, _, r4⟩ := leftN_mx b e M d h.d64 h.dvd (by omega) 64 L 0 (by omega) h.l (by omega) (by omega) (by omega) (by simp) (by omega) x hx
    exact ⟨r1, r4⟩
  · obtain ⟨r1, _, r3⟩ := (right_facts h).2.1 x hx
    exact ⟨r1, by omega⟩
theorem nodesN_cover (h : Cut b e L R M d) {p : Nat} (h1 : b ≤ p) (h2 : p < e) : ∃ l, (l, p / 2 ^ l) ∈ nodesN M e L R := by
  have h3 := h.hi
  have h4 := h.lo
  rw [nodesN_eq h]
  by_cases hp : p < M
  · obtain ⟨l, hl⟩ := leftN_cover b M d h.d64 h.dvd 64 L (by omega) h.l (by omega) (by simp) p (by omega) hp
    exact ⟨l, List.mem_append.2 (.inl hl)⟩
  · obtain ⟨l, hl⟩ := (right_facts h).2.2 p (by omega) h2
    exact ⟨l, List.mem_append.2 (.inr hl)⟩
theorem nodesN_nodup (h : Cut b e L R M d) : (nodesN M e L R).Nodup := by
  have h3 := h.hi
  have h4 := h.lo
  rw [nodesN_eq h, List.nodup_append]
  refine ⟨(leftN_nodup M d h.d64 h.dvd 64 L (by omega) h.l (by omega) (by simp)).1, (right_facts h).1, ?_⟩
  intro x hx y hy hxy
  subst hxy
  obtain ⟨_, r2, _, _⟩ := leftN_mx b e M d h.d64 h.dvd (by omega) 64 L 0 (by omega) h.l (by omega) (by omega) (by omega) (by simp) (by omega) x hx
  have := ((right_facts h).2.1 x hy).2.1
  omega
/-- Every greatest node is listed. -/
theorem mx_nodesN (h : Cut b e L R M d) {l i : Nat} (hx : Mx b e l i) : (l, i) ∈ nodesN M e L R := by
  have hp : 2 ^ l * i < e := by
    have := hx.1.2
    rw [Nat.mul_add, Nat.mul_one] at this
    have := Nat.two_pow_pos l
    omega
  obtain ⟨l', hl⟩ := nodesN_cover h hx.1.1 hp
  have h1 := (nodesN_mx h hl).1
  have e1 : 2 ^ l * i / 2 ^ l = i := in_start l i
  have hx' : Mx b e l (2 ^ l * i / 2 ^ l) := by rw [e1]; exact hx
  have := mx_one hx' h1
  subst this
  rw [e1] at hl
  exact hl
theorem nodesN_nil (h : Cut b e L R M d) : nodesN M e L R = [] ↔ ¬ b < e := by
  constructor
  · intro hn hb
    obtain ⟨l, hl⟩ := nodesN_cover h (Nat.le_refl b) hb
    rw [hn] at hl
    cases hl
  · intro hb
    have h3 := h.hi
    have h4 := h.lo
    have : L = 0 := by omega
    have : R = 0 := by omega
    subst L R
    simp [nodesN, leftN, rightN]
end

theorem len_le : ∀ {l r : List (Nat × Nat)}, l.Nodup → (∀ x, x ∈ l → x ∈ r) → l.length ≤ r.length
  | [], _, _, _ => Nat.zero_le _
  | a :: l, r, hn, hs => by
    rw [List.nodup_cons] at hn
    have ha : a ∈ r := hs a (List.mem_cons_self ..)
    have := len_le (l := l) (r := r.erase a) hn.2 (fun x hx => by
      rw [List.mem_erase_of_ne]
      · exact hs x (List.mem_cons_of_mem _ hx)
      · intro h; subst h; exact hn.1 hx)
    rw [List.length_erase_of_mem ha] at this
    have := List.length_pos_of_mem ha
    rw [List.length_cons]
    omega

/-- A node of [b, e) that m cuts. -/
def across (m : Nat) (x : Nat × Nat) : Bool := decide (2 ^ x.1 * x.2 < m) && decide (m < 2 ^ x.1 * (x.2 + 1))

section
variable {b m e : Nat} {W A C : List (Nat × Nat)}
structure Nodes (b e : Nat) (W : List (Nat × Nat)) : Prop where
  mx : ∀ x, x ∈ W → Mx b e x.1 x.2 ∧ x.1 < 64
  all : ∀ l i, Mx b e l i → (l, i) ∈ W
  cover : ∀ p, b ≤ p → p < e → ∃ l, (l, p / 2 ^ l) ∈ W
  nodup : W.Nodup
  nil : W = [] ↔ ¬ b < e

theorem nodes_cut {L R M d : Nat} (h : Cut b e L R M d) : Nodes b e (nodesN M e L R) :=
  ⟨fun _ => nodesN_mx h, fun _ _ => mx_nodesN h, fun _ => nodesN_cover h, nodesN_nodup h, nodesN_nil h⟩

theorem split_whole (hm : b ≤ m ∧ m ≤ e) (hW : Nodes b e W) (hA : Nodes b m A) (hC : Nodes m e C) {x : Nat × Nat} (hx : x ∈ W) (hn : across m x = false) : x ∈ A ++ C := by
  obtain ⟨⟨⟨h1, h2⟩, h3⟩, _⟩ := hW.mx x hx
  rw [List.mem_append]
  unfold across at hn
  rw [Bool.and_eq_false_iff, decide_eq_false_iff_not, decide_eq_false_iff_not] at hn
  rcases hn with hn | hn
  · exact .inr (hC.all x.1 x.2 ⟨⟨by omega, h2⟩, fun h => h3 ⟨by have := h.1; omega, h.2⟩⟩)
  · exact .inl (hA.all x.1 x.2 ⟨⟨h1, by omega⟩, fun h => h3 ⟨h.1, by have := h.2; omega⟩⟩)

theorem split_both (hm : b ≤ m ∧ m ≤ e) (hW : Nodes b e W) (hA : Nodes b m A) (hC : Nodes m e C) {x : Nat × Nat} (hx : x ∈ A ++ C) (hn : x ∉ W) :
    ∃ y, y ∈ W ∧ across m y = true ∧ x.1 < y.1 ∧ x.2 / 2 ^ (y.1 - x.1) = y.2 := by
  obtain ⟨l, i⟩ := x
  have e1 : 2 ^ l * i / 2 ^ l = i := in_start l i
  have hpos := Nat.two_pow_pos l
  have hin : In b e l i := by
    rw [List.mem_append] at hx
    rcases hx with hx | hx
    · obtain ⟨⟨⟨h1, h2⟩, _⟩, _⟩ := hA.mx _ hx; exact ⟨h1, by simp only at h2; omega⟩
    · obtain ⟨⟨⟨h1, h2⟩, _⟩, _⟩ := hC.mx _ hx; exact ⟨by simp only at h1; omega, h2⟩
  have hnm : In b e (l + 1) (i / 2) := by
    apply Classical.byContradiction
    intro h
    exact hn (hW.all l i ⟨hin, h⟩)
  have hpe : 2 ^ l * i < e := by
    have := hin.2
    rw [Nat.mul_add, Nat.mul_one] at this
    omega
  obtain ⟨l', hl⟩ := hW.cover (2 ^ l * i) hin.1 hpe
  obtain ⟨hy, _⟩ := hW.mx _ hl
  simp only at hy
  have hll : l < l' := by
    apply Decidable.byContradiction
    intro h
    have hnm' : In b e (l + 1) (2 ^ l * i / 2 ^ (l + 1)) := by rw [half_div, e1]; exact hnm
    have := in_mono (l := l' + 1) (by omega) hnm'
    rw [half_div] at this
    exact hy.2 this
  have hlo := div_lo (2 ^ l * i) l'
  have hhi := div_hi (2 ^ l * i) l'
  refine ⟨_, hl, ?_, hll, ?_⟩
  · unfold across
    rw [Bool.and_eq_true, decide_eq_true_eq, decide_eq_true_eq]
    simp only
    rw [List.mem_append] at hx
    rcases hx with hx | hx
    · obtain ⟨⟨⟨h1, h2⟩, h3⟩, _⟩ := hA.mx _ hx
      simp only at h1 h2 h3
      rw [Nat.mul_add, Nat.mul_one] at h2
      refine ⟨by omega, ?_⟩
      apply Decidable.byContradiction
      intro h
      have : In b m l' (2 ^ l * i / 2 ^ l') := ⟨hy.1.1, by omega⟩
      have := in_mono (l := l + 1) (by omega) this
      rw [half_div, e1] at this
      exact h3 this
    · obtain ⟨⟨⟨h1, h2⟩, h3⟩, _⟩ := hC.mx _ hx
      simp only at h1 h2 h3
      refine ⟨?_, by omega⟩
      apply Decidable.byContradiction
      intro h
      have : In m e l' (2 ^ l * i / 2 ^ l') := ⟨by omega, hy.1.2⟩
      have := in_mono (l := l + 1) (by omega) this
      rw [half_div, e1] at this
      exact h3 this
  · simp only
    have : 2 ^ l' = 2 ^ l * 2 ^ (l' - l) := by rw [← Nat.pow_add]; congr 1; omega
    rw [this, ← Nat.div_div_eq_div_mul, e1]

theorem across_one (hW : Nodes b e W) {x y : Nat × Nat} (hx : x ∈ W) (hy : y ∈ W) (h1 : across m x = true) (h2 : across m y = true) : x = y := by
  unfold across at h1 h2
  rw [Bool.and_eq_true, decide_eq_true_eq, decide_eq_true_eq] at h1 h2
  obtain ⟨l, i⟩ := x
  obtain ⟨l', i'⟩ := y
  simp only at h1 h2
  have e1 : m / 2 ^ l = i := div_of (by omega) h1.2
  have e2 : m / 2 ^ l' = i' := div_of (by omega) h2.2
  have k1 := (hW.mx _ hx).1
  have k2 := (hW.mx _ hy).1
  simp only at k1 k2
  rw [← e1] at k1
  rw [← e2] at k2
  have := mx_one k1 k2
  subst this
  rw [← e1, ← e2]

/-- The cut node, if there is one. -/
theorem across_list (hW : Nodes b e W) : W.filter (across m) = [] ∨ ∃ y, W.filter (across m) = [y] := by
  have hn : (W.filter (across m)).Nodup := hW.nodup.filter _
  rcases h : W.filter (across m) with _ | ⟨y, _ | ⟨z, t⟩⟩
  · exact .inl rfl
  · exact .inr ⟨y, rfl⟩
  · exfalso
    have hy : y ∈ W.filter (across m) := by rw [h]; simp
    have hz : z ∈ W.filter (across m) := by rw [h]; simp
    rw [List.mem_filter] at hy hz
    have := across_one hW hy.1 hz.1 hy.2 hz.2
    subst this
    rw [h] at hn
    simp at hn

theorem split_len (hm : b ≤ m ∧ m ≤ e) (hW : Nodes b e W) (hA : Nodes b m A) (hC : Nodes m e C) : W.length ≤ (A ++ C).length := by
  rcases across_list (m := m) hW with h | ⟨y, h⟩
  · refine len_le hW.nodup fun x hx => split_whole hm hW hA hC hx ?_
    cases hh : across m x
    · rfl
    · have : x ∈ W.filter (across m) := List.mem_filter.2 ⟨hx, hh⟩
      rw [h] at this; cases this
  · have hy : y ∈ W.filter (across m) := by rw [h]; simp
    rw [List.mem_filter] at hy
    have hy2 := hy.2
    unfold across at hy2
    rw [Bool.and_eq_true, decide_eq_true_eq, decide_eq_true_eq] at hy2
    obtain ⟨⟨k1, k2⟩, _⟩ := (hW.mx _ hy.1).1
    -- a node of the right part that holds m
    obtain ⟨l, hl⟩ := hC.cover m (Nat.le_refl m) (by omega)
    have hl2 := (hC.mx _ hl).1
    simp only at hl2
    have hnW : (l, m / 2 ^ l) ∉ W := by
      intro hin
      have hi := (hW.mx _ hin).1
      simp only at hi
      have e1 : m / 2 ^ y.1 = y.2 := div_of (by omega) hy2.2
      have hi2 := (hW.mx _ hy.1).1
      rw [← e1] at hi2
      have := mx_one hi hi2
      subst this
      rw [e1] at hl2
      have := hl2.1.1
      omega
    have hnd : ((l, m / 2 ^ l) :: W.filter (fun x => !across m x)).Nodup := by
      rw [List.nodup_cons]
      refine ⟨fun h => hnW (List.mem_filter.1 h).1, hW.nodup.filter _⟩
    have hle := len_le (r := A ++ C) hnd (fun x hx => by
      rw [List.mem_cons] at hx
      rcases hx with rfl | hx
      · exact List.mem_append.2 (.inr hl)
      · rw [List.mem_filter] at hx
        exact split_whole hm hW hA hC hx.1 (by simpa using hx.2))
    rw [List.length_cons] at hle
    have hsum : ∀ (l : List (Nat × Nat)), l.length = (l.filter (across m)).length + (l.filter (fun x => !across m x)).length := by
      intro l
      induction l with
      | nil => rfl
      | cons a l ih =>
        rw [List.filter_cons, List.filter_cons]
        cases across m a <;> simp [ih] <;> omega
    have := hsum W
    rw [h, List.length_singleton] at this
    omega
end

end Go.Proofs.YtmcelgfekffinaaDoor.M
