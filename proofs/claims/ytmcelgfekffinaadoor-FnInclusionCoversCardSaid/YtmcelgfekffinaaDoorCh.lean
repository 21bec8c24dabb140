/- The nodes of a range follow one another, from its begin to its end; a range has one such list; a range whose bounds are multiplied by a power of two. No program stands in it. -/
import Derived.Test.YtmcelgfekffinaaDoorDy
namespace Go.Proofs.YtmcelgfekffinaaDoor.M
open Go

/-- Each node begins where the one ahead of it ends. -/
def Chain : Nat → Nat → List (Nat × Nat) → Prop
  | b, e, [] => b = e
  | b, e, x :: xs => b = 2 ^ x.1 * x.2 ∧ Chain (2 ^ x.1 * (x.2 + 1)) e xs

theorem chain_append : ∀ {l r : List (Nat × Nat)} {b m e : Nat}, Chain b m l → Chain m e r → Chain b e (l ++ r)
  | [], _, _, _, _, h, h' => by
    cases h
    exact h'
  | _ :: _, _, _, _, _, h, h' => ⟨h.1, chain_append h.2 h'⟩

theorem chain_le : ∀ {l : List (Nat × Nat)} {b e : Nat}, Chain b e l → b ≤ e
  | [], _, _, h => Nat.le_of_eq h
  | x :: _, _, _, h => by
    have h1 := chain_le h.2
    have h2 := h.1
    rw [Nat.mul_add] at h1
    omega

theorem chain_mem : ∀ {l : List (Nat × Nat)} {b e : Nat}, Chain b e l → ∀ x, x ∈ l → b ≤ 2 ^ x.1 * x.2 ∧ 2 ^ x.1 * (x.2 + 1) ≤ e
  | [], _, _, _, _, hx => by cases hx
  | y :: l, b, e, h, x, hx => by
    rcases List.mem_cons.1 hx with rfl | hx
    · exact ⟨Nat.le_of_eq h.1, chain_le h.2⟩
    · have h1 := chain_mem h.2 x hx
      have h2 := h.1
      rw [Nat.mul_add] at h1
      exact ⟨by omega, h1.2⟩

theorem chain_left (M d : Nat) (hd : d ≤ 64) (hM : 2 ^ d ∣ M) : ∀ (f L : Nat), f ≤ 64 → L < 2 ^ d → L ≤ M → 2 ^ (64 - f) ∣ L → Chain (M - L) M (leftN f M L)
  | 0, L, _, hL, _, hdv => by
    have h0 : L = 0 := Nat.eq_zero_of_dvd_of_lt hdv (Nat.lt_of_lt_of_le hL (Nat.pow_le_pow_right (by omega) hd))
    subst h0
    exact Nat.sub_zero M
  | f + 1, L, hf, hL, hLM, hdv => by
    by_cases h0 : L = 0
    · subst h0
      rw [leftN, if_pos rfl]
      exact Nat.sub_zero M
    have hs := lstep f d M L hf h0 hL hd hM hLM hdv
    rw [leftN, if_neg h0]
    generalize Lib.ctz 64 L = c at *
    obtain ⟨c63, cd, fc, le, dvd, ⟨m, odd⟩, low⟩ := hs
    have hq : (M - L) / 2 ^ c = 2 * m + 1 := by rw [odd, Nat.mul_div_cancel_left _ (Nat.two_pow_pos c)]
    have ih := chain_left M d hd hM f (L - 2 ^ c) (by omega) (by omega) (by omega) (Nat.dvd_trans (Nat.pow_dvd_pow 2 (by omega)) dvd)
    refine ⟨?_, ?_⟩
    · show M - L = 2 ^ c * ((M - L) / 2 ^ c)
      rw [hq]
      exact odd
    · show Chain (2 ^ c * ((M - L) / 2 ^ c + 1)) M _
      have e1 : 2 ^ c * ((M - L) / 2 ^ c + 1) = M - (L - 2 ^ c) := by
        rw [hq, Nat.mul_add (2 ^ c) (2 * m + 1) 1, ← odd]
        omega
      rw [e1]
      exact ih

theorem chain_right (e : Nat) : ∀ (f R : Nat), f ≤ 64 → R < 2 ^ f → R ≤ e → 2 ^ f ∣ e - R → Chain (e - R) e (rightN f e R) := by
  intro f
  induction f using Nat.strongRecOn with
  | _ f ih =>
  intro R hf hR hRe hdv
  by_cases h0 : R = 0
  · subst h0
    have : rightN f e 0 = [] := by cases f <;> simp [rightN]
    rw [this]
    exact Nat.sub_zero e
  obtain ⟨f, rfl⟩ : ∃ g, f = g + 1 := by
    refine ⟨f - 1, ?_⟩
    rcases Nat.eq_zero_or_pos f with h | h
    · subst h; simp at hR; omega
    · omega
  have hs := rstep f e R hf h0 hR hRe hdv
  rw [rightN, if_neg h0]
  generalize Lib.bitLen R - 1 = c at *
  obtain ⟨c63, cf, le, lt, rest, ⟨m, even⟩, dvd⟩ := hs
  have hfuel : rightN f e (R - 2 ^ c) = rightN c e (R - 2 ^ c) := rightN_fuel c f e _ cf (by omega) rest
  have i1 := ih c (by omega) (R - 2 ^ c) (by omega) rest (by omega) dvd
  have hq : (e - R) / 2 ^ c = 2 * m := by rw [even, Nat.mul_div_cancel_left _ (Nat.two_pow_pos c)]
  rw [hfuel]
  refine ⟨?_, ?_⟩
  · show e - R = 2 ^ c * ((e - R) / 2 ^ c)
    rw [hq]
    exact even
  · show Chain (2 ^ c * ((e - R) / 2 ^ c + 1)) e _
    have e1 : 2 ^ c * ((e - R) / 2 ^ c + 1) = e - (R - 2 ^ c) := by
      rw [hq, Nat.mul_add (2 ^ c) (2 * m) 1, ← even]
      omega
    rw [e1]
    exact i1

/-- The list of the nodes of [b, e). -/
structure IsN (b e : Nat) (l : List (Nat × Nat)) : Prop where
  chain : Chain b e l
  mx : ∀ x, x ∈ l → Mx b e x.1 x.2

theorem isN_cut {b e L R M d : Nat} (h : Cut b e L R M d) : IsN b e (nodesN M e L R) := by
  refine ⟨?_, fun x hx => (nodesN_mx h hx).1⟩
  have h3 := h.hi
  have h4 := h.lo
  rw [nodesN_eq h]
  have c1 := chain_left M d h.d64 h.dvd 64 L (by omega) h.l (by omega) (by simp)
  have c2 := chain_right e d R h.d64 h.r (by omega) (by rw [show e - R = M by omega]; exact h.dvd)
  rw [show M - L = b by omega] at c1
  rw [show e - R = M by omega] at c2
  exact chain_append c1 c2

theorem chain_uniq {b e : Nat} : ∀ {l r : List (Nat × Nat)} {p : Nat}, Chain p e l → Chain p e r → (∀ x, x ∈ l → Mx b e x.1 x.2) → (∀ x, x ∈ r → Mx b e x.1 x.2) → l = r
  | [], [], _, _, _, _, _ => rfl
  | [], y :: r, p, h, h', _, _ => by
    have h1 := chain_le h'.2
    have h2 := h'.1
    have h3 : p = e := h
    have := Nat.two_pow_pos y.1
    rw [Nat.mul_add] at h1
    omega
  | x :: l, [], p, h', h, _, _ => by
    have h1 := chain_le h'.2
    have h2 := h'.1
    have h3 : p = e := h
    have := Nat.two_pow_pos x.1
    rw [Nat.mul_add] at h1
    omega
  | x :: l, y :: r, p, h, h', hl, hr => by
    have m1 := hl x List.mem_cons_self
    have m2 := hr y List.mem_cons_self
    have e1 : p / 2 ^ x.1 = x.2 := by rw [h.1]; exact in_start _ _
    have e2 : p / 2 ^ y.1 = y.2 := by rw [h'.1]; exact in_start _ _
    rw [← e1] at m1
    rw [← e2] at m2
    have e3 := mx_one m1 m2
    have e4 : x.2 = y.2 := by rw [← e1, ← e2, e3]
    have e5 : x = y := Prod.ext e3 e4
    subst e5
    congr 1
    exact chain_uniq h.2 h'.2 (fun z hz => hl z (List.mem_cons_of_mem _ hz)) (fun z hz => hr z (List.mem_cons_of_mem _ hz))

theorem isN_uniq {b e : Nat} {l r : List (Nat × Nat)} (h : IsN b e l) (h' : IsN b e r) : l = r := chain_uniq h.chain h'.chain h.mx h'.mx

/-- k levels higher. -/
def up (k : Nat) (l : List (Nat × Nat)) : List (Nat × Nat) := l.map fun x => (x.1 + k, x.2)

theorem in_up {b e l i : Nat} (k : Nat) : In (b * 2 ^ k) (e * 2 ^ k) (l + k) i ↔ In b e l i := by
  have hk := Nat.two_pow_pos k
  have e1 : ∀ j, 2 ^ (l + k) * j = 2 ^ l * j * 2 ^ k := fun j => by rw [Nat.pow_add, Nat.mul_assoc, Nat.mul_comm (2 ^ k) j, Nat.mul_assoc]
  unfold In
  rw [e1, e1, Nat.mul_le_mul_right_iff hk, Nat.mul_le_mul_right_iff hk]

theorem mx_up {b e l i : Nat} (k : Nat) : Mx (b * 2 ^ k) (e * 2 ^ k) (l + k) i ↔ Mx b e l i := by
  unfold Mx
  rw [in_up, show l + k + 1 = l + 1 + k by omega, in_up]

theorem chain_up (k : Nat) : ∀ {l : List (Nat × Nat)} {b e : Nat}, Chain b e l → Chain (b * 2 ^ k) (e * 2 ^ k) (up k l)
  | [], _, _, h => by
    cases h
    exact rfl
  | x :: l, b, e, h => by
    have e1 : ∀ j, 2 ^ (x.1 + k) * j = 2 ^ x.1 * j * 2 ^ k := fun j => by rw [Nat.pow_add, Nat.mul_assoc, Nat.mul_comm (2 ^ k) j, Nat.mul_assoc]
    refine ⟨?_, ?_⟩
    · show b * 2 ^ k = 2 ^ (x.1 + k) * x.2
      rw [e1, ← h.1]
    · show Chain (2 ^ (x.1 + k) * (x.2 + 1)) (e * 2 ^ k) (up k l)
      rw [e1]
      exact chain_up k h.2

theorem isN_up (k : Nat) {b e : Nat} {l : List (Nat × Nat)} (h : IsN b e l) : IsN (b * 2 ^ k) (e * 2 ^ k) (up k l) := by
  refine ⟨chain_up k h.chain, ?_⟩
  intro x hx
  obtain ⟨y, hy, rfl⟩ := List.mem_map.1 hx
  exact (mx_up k).2 (h.mx y hy)
end Go.Proofs.YtmcelgfekffinaaDoor.M
