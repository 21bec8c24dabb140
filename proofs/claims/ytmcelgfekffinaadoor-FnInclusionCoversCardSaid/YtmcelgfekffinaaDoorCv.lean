/- The nodes of which an audit path is made: below them lies each leaf but one, once. No program stands in it. -/
import Derived.Test.YtmcelgfekffinaaDoorPa
namespace Go.Proofs.YtmcelgfekffinaaDoor.M
open Go

def lo (x : Nat × Nat) : Nat := 2 ^ x.1 * x.2
def hi (x : Nat × Nat) : Nat := 2 ^ x.1 * (x.2 + 1)
theorem lo_hi (x : Nat × Nat) : hi x = lo x + 2 ^ x.1 := by unfold lo hi; rw [Nat.mul_add, Nat.mul_one]
/-- Two nodes with no leaf in common. -/
def Dis (x y : Nat × Nat) : Prop := hi x ≤ lo y ∨ hi y ≤ lo x
theorem Dis.symm {x y : Nat × Nat} (h : Dis x y) : Dis y x := Or.symm h
def sz (l : List (Nat × Nat)) : Nat := (l.map fun x => 2 ^ x.1).sum
theorem sz_nil : sz [] = 0 := rfl
theorem sz_cons (x : Nat × Nat) (l : List (Nat × Nat)) : sz (x :: l) = 2 ^ x.1 + sz l := by simp [sz]
theorem sz_append (l r : List (Nat × Nat)) : sz (l ++ r) = sz l + sz r := by simp [sz]
theorem sz_reverse : ∀ (l : List (Nat × Nat)), sz l.reverse = sz l
  | [] => rfl
  | x :: l => by rw [List.reverse_cons, sz_append, sz_reverse l, sz_cons, sz_cons, sz_nil]; omega

theorem chain_facts : ∀ {l : List (Nat × Nat)} {b e : Nat}, Chain b e l → l.Pairwise Dis ∧ b + sz l = e ∧ ∀ x, x ∈ l → b ≤ lo x ∧ hi x ≤ e
  | [], b, e, h => ⟨List.Pairwise.nil, by rw [sz_nil]; exact h, fun _ hx => by cases hx⟩
  | x :: l, b, e, h => by
    obtain ⟨i1, i2, i3⟩ := chain_facts h.2
    have h1 : b = lo x := h.1
    have h2 : hi x + sz l = e := i2
    have h3 := lo_hi x
    have h0 := Nat.two_pow_pos x.1
    have h4 := chain_le h.2
    refine ⟨List.Pairwise.cons (fun y hy => .inl (i3 y hy).1) i1, by rw [sz_cons]; omega, ?_⟩
    intro y hy
    rcases List.mem_cons.1 hy with rfl | hy
    · exact ⟨Nat.le_of_eq h1, by omega⟩
    · have h5 : hi x ≤ lo y := (i3 y hy).1
      exact ⟨by omega, (i3 y hy).2⟩

theorem sibs_facts : ∀ (c l i : Nat), (sibs c l i).Pairwise Dis ∧ 2 ^ l + sz (sibs c l i) = 2 ^ (l + c) ∧
    ∀ x, x ∈ sibs c l i → i / 2 ^ c * 2 ^ (l + c) ≤ lo x ∧ hi x ≤ (i / 2 ^ c + 1) * 2 ^ (l + c) ∧ (hi x ≤ i * 2 ^ l ∨ (i + 1) * 2 ^ l ≤ lo x)
  | 0, l, i => ⟨List.Pairwise.nil, by simp [sibs, sz_nil], fun _ hx => by cases hx⟩
  | c + 1, l, i => by
    obtain ⟨i1, i2, i3⟩ := sibs_facts c (l + 1) (i / 2)
    have hP := Nat.two_pow_pos l
    have hp : 2 ^ (l + 1) = 2 * 2 ^ l := Nat.pow_succ'
    have e1 : i / 2 / 2 ^ c = i / 2 ^ (c + 1) := by rw [Nat.div_div_eq_div_mul, ← Nat.pow_succ']
    have e2 : l + 1 + c = l + (c + 1) := by omega
    rw [e1, e2] at i3
    rw [e2] at i2
    -- the block of the parent
    obtain ⟨h, hh⟩ : ∃ h, h = i / 2 := ⟨_, rfl⟩
    have hcase : (i = 2 * h ∧ i ^^^ 1 = 2 * h + 1) ∨ (i = 2 * h + 1 ∧ i ^^^ 1 = 2 * h) := by
      rcases Nat.mod_two_eq_zero_or_one i with h0 | h0
      · exact .inl ⟨by omega, by rw [xor1_even h0]; omega⟩
      · exact .inr ⟨by omega, by rw [xor1_odd h0]; omega⟩
    have hb : h * 2 ^ (l + 1) = 2 ^ l * (2 * h) := by rw [hp, Nat.mul_comm h, Nat.mul_comm 2, Nat.mul_assoc]
    have hb2 : (h + 1) * 2 ^ (l + 1) = 2 ^ l * (2 * h) + 2 * 2 ^ l := by rw [Nat.add_mul, hb, hp]; omega
    have hs : lo (l, i ^^^ 1) = 2 ^ l * (i ^^^ 1) := rfl
    have hs2 := lo_hi (l, i ^^^ 1)
    have hs3 : hi (l, i ^^^ 1) = lo (l, i ^^^ 1) + 2 ^ l := hs2
    have ho : i * 2 ^ l = 2 ^ l * i := Nat.mul_comm _ _
    have ho2 : (i + 1) * 2 ^ l = 2 ^ l * i + 2 ^ l := by rw [Nat.mul_comm, Nat.mul_add, Nat.mul_one]
    have hin : h * 2 ^ (l + 1) ≤ lo (l, i ^^^ 1) ∧ hi (l, i ^^^ 1) ≤ (h + 1) * 2 ^ (l + 1) ∧ h * 2 ^ (l + 1) ≤ i * 2 ^ l ∧ (i + 1) * 2 ^ l ≤ (h + 1) * 2 ^ (l + 1) ∧ (hi (l, i ^^^ 1) ≤ i * 2 ^ l ∨ (i + 1) * 2 ^ l ≤ lo (l, i ^^^ 1)) := by
      rw [hs3, hs, ho, ho2, hb, hb2]
      rcases hcase with ⟨c1, c2⟩ | ⟨c1, c2⟩
      · rw [c2, c1, Nat.mul_add, Nat.mul_one]
        generalize 2 ^ l * (2 * h) = A
        exact ⟨by omega, by omega, by omega, by omega, .inr (by omega)⟩
      · rw [c2, c1, Nat.mul_add, Nat.mul_one]
        generalize 2 ^ l * (2 * h) = A
        exact ⟨by omega, by omega, by omega, by omega, .inl (by omega)⟩
    obtain ⟨q1, q2, q3, q4, q5⟩ := hin
    rw [← hh] at i3 i1 i2
    -- the block of the fork holds that of the parent
    have hf1 : i / 2 ^ (c + 1) * 2 ^ (l + (c + 1)) ≤ h * 2 ^ (l + 1) := by
      have h2 : h / 2 ^ c * 2 ^ c ≤ h := Nat.div_mul_le_self _ _
      have h3 := Nat.mul_le_mul_right (2 ^ (l + 1)) h2
      rw [Nat.mul_assoc, ← Nat.pow_add, show c + (l + 1) = l + (c + 1) by omega, hh, e1] at h3
      rw [hh]
      exact h3
    have hf2 : (h + 1) * 2 ^ (l + 1) ≤ (i / 2 ^ (c + 1) + 1) * 2 ^ (l + (c + 1)) := by
      have h2 : h + 1 ≤ (h / 2 ^ c + 1) * 2 ^ c := by
        have h4 := Nat.lt_div_mul_add (a := h) (b := 2 ^ c) (Nat.two_pow_pos c)
        rw [Nat.add_mul, Nat.one_mul]
        omega
      have h3 := Nat.mul_le_mul_right (2 ^ (l + 1)) h2
      rw [Nat.mul_assoc _ (2 ^ c), ← Nat.pow_add, show c + (l + 1) = l + (c + 1) by omega] at h3
      rw [← e1, ← hh]
      exact h3
    rw [sibs, ← hh]
    refine ⟨List.Pairwise.cons (fun y hy => ?_) i1, by rw [sz_cons]; simp only; omega, ?_⟩
    · rcases (i3 y hy).2.2 with h5 | h5
      · exact .inr (by omega)
      · exact .inl (by omega)
    · intro x hx
      rcases List.mem_cons.1 hx with rfl | hx
      · exact ⟨by omega, by omega, q5⟩
      · obtain ⟨h5, h6, h7⟩ := i3 x hx
        refine ⟨h5, h6, ?_⟩
        rcases h7 with h7 | h7
        · exact .inl (by omega)
        · exact .inr (by omega)

/-- The tail of a path in the whole log. -/
structure Cover (i s : Nat) (T : List (Nat × Nat)) : Prop where
  dis : T.Pairwise Dis
  sum : 1 + sz T = s
  mem : ∀ x, x ∈ T → hi x ≤ s ∧ (i < lo x ∨ hi x ≤ i)

theorem cover_of {i s c : Nat} {Rt Lf : List (Nat × Nat)} (hR : IsN ((i / 2 ^ c + 1) * 2 ^ (0 + c)) s Rt) (hL : IsN 0 (i / 2 ^ c * 2 ^ (0 + c)) Lf) : Cover i s (sibs c 0 i ++ Rt.reverse ++ Lf.reverse) := by
  obtain ⟨s1, s2, s3⟩ := sibs_facts c 0 i
  obtain ⟨r1, r2, r3⟩ := chain_facts hR.chain
  obtain ⟨l1, l2, l3⟩ := chain_facts hL.chain
  have hq1 : i / 2 ^ c * 2 ^ (0 + c) ≤ i := by rw [Nat.zero_add]; exact Nat.div_mul_le_self _ _
  have hq2 : i < (i / 2 ^ c + 1) * 2 ^ (0 + c) := by
    have := Nat.lt_div_mul_add (a := i) (b := 2 ^ c) (Nat.two_pow_pos c)
    rw [Nat.zero_add, Nat.add_mul, Nat.one_mul]
    exact this
  have hq3 : (i / 2 ^ c + 1) * 2 ^ (0 + c) = i / 2 ^ c * 2 ^ (0 + c) + 2 ^ (0 + c) := by rw [Nat.add_mul, Nat.one_mul]
  generalize (i / 2 ^ c + 1) * 2 ^ (0 + c) = E at *
  generalize i / 2 ^ c * 2 ^ (0 + c) = B at *
  refine ⟨?_, ?_, ?_⟩
  · rw [List.pairwise_append, List.pairwise_append]
    refine ⟨⟨s1, List.pairwise_reverse.2 (r1.imp Dis.symm), ?_⟩, List.pairwise_reverse.2 (l1.imp Dis.symm), ?_⟩
    · intro a ha b hb
      have h1 := (s3 a ha).2.1
      have h2 := (r3 b (List.mem_reverse.1 hb)).1
      exact .inl (by omega)
    · intro a ha b hb
      have h2 := (l3 b (List.mem_reverse.1 hb)).2
      rcases List.mem_append.1 ha with ha | ha
      · have h1 := (s3 a ha).1
        exact .inr (by omega)
      · have h1 := (r3 a (List.mem_reverse.1 ha)).1
        exact .inr (by omega)
  · rw [sz_append, sz_append, sz_reverse, sz_reverse]
    rw [Nat.pow_zero] at s2
    omega
  · intro x hx
    rcases List.mem_append.1 hx with hx | hx
    · rcases List.mem_append.1 hx with hx | hx
      · obtain ⟨h1, h2, h3⟩ := s3 x hx
        rw [Nat.pow_zero, Nat.mul_one, Nat.mul_one] at h3
        refine ⟨by omega, ?_⟩
        rcases h3 with h3 | h3
        · exact .inr h3
        · exact .inl (by omega)
      · have h1 := r3 x (List.mem_reverse.1 hx)
        exact ⟨h1.2, .inl (by omega)⟩
    · have h1 := l3 x (List.mem_reverse.1 hx)
      exact ⟨by omega, .inr (by omega)⟩
end Go.Proofs.YtmcelgfekffinaaDoor.M
