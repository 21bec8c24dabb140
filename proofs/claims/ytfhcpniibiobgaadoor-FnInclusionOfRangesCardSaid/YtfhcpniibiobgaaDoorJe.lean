/- Several texts, joined. -/
import Derived.Test.YtfhcpniibiobgaaDoorJm
import Derived.Test.YtfhcpniibiobgaaDoorJp
namespace Go.Proofs.YtfhcpniibiobgaaDoor.Core
def IsNs (b e n : Nat) : Prop := 2 ^ n ∣ e + 1 ∧ b + 2 ^ n ≤ e + 1 ∧ ∀ m, 2 ^ m ∣ e + 1 → b + 2 ^ m ≤ e + 1 → m ≤ n
theorem isNs_uniq {b e n m : Nat} (h1 : IsNs b e n) (h2 : IsNs b e m) : n = m :=
  Nat.le_antisymm (h2.2.2 n h1.1 h1.2.1) (h1.2.2 m h2.1 h2.2.1)
theorem dvd_pow_top {x n m : Nat} (h : 2 ^ (n + 1) ∣ x) (hm : 2 ^ m ∣ x + 2 ^ n) : m ≤ n := by
  rcases Nat.lt_or_ge n m with hlt | hge
  · have h1 : 2 ^ (n + 1) ∣ x + 2 ^ n := Nat.dvd_trans (Nat.pow_dvd_pow 2 (by omega)) hm
    have h2 : 2 ^ (n + 1) ∣ 2 ^ n := (Nat.dvd_add_right h).1 h1
    have h3 := Nat.le_of_dvd (Nat.two_pow_pos n) h2
    rw [Nat.pow_succ] at h3
    have := Nat.two_pow_pos n
    omega
  · exact hge
section
variable {α : Type} (H : α → α → α) (d : α)
def mg (l : List α) : Nat → α → α
  | 0, s => s
  | n + 1, s => H (l.getD (l.length - (n + 1)) d) (mg l n s)
def stepL (n : Nat) (l : List α) (s : α) : List α := l.take (l.length - n) ++ [mg H d l n s]
def lsL (ns : Nat → Nat) (M : Nat → α) : Nat → List α
  | 0 => []
  | j + 1 => stepL H d (ns j) (lsL ns M j) (M j)
theorem stepL_len (n : Nat) (l : List α) (s : α) : (stepL H d n l s).length = l.length - n + 1 := by
  unfold stepL
  rw [List.length_append, List.length_take, List.length_singleton]
  omega
variable {H d} {b : Nat} {ns : Nat → Nat} {M : Nat → α}
theorem grown (hns : ∀ j, IsNs b (b + j) (ns j)) : ∀ (n x : Nat), b ≤ x → 2 ^ n ∣ x → (lsL H d ns M (x + 2 ^ n - 1 - b)).length = (lsL H d ns M (x - b)).length + n
  | 0, x, hx, _ => by
    rw [show x + 2 ^ 0 - 1 - b = x - b by omega]
    rfl
  | n + 1, x, hx, hd => by
    have hp := Nat.two_pow_pos n
    have hd' : 2 ^ n ∣ x := Nat.dvd_trans (Nat.pow_dvd_pow 2 (by omega)) hd
    have h1 := grown hns n x hx hd'
    have h2 := grown hns n (x + 2 ^ n) (by omega) ((Nat.dvd_add_right hd').2 (Nat.dvd_refl _))
    have hn : ns (x + 2 ^ n - 1 - b) = n := by
      have he : b + (x + 2 ^ n - 1 - b) = x + 2 ^ n - 1 := by omega
      have hi := hns (x + 2 ^ n - 1 - b)
      rw [he] at hi
      refine isNs_uniq hi ⟨?_, by omega, fun m hm _ => ?_⟩
      · rw [show x + 2 ^ n - 1 + 1 = x + 2 ^ n by omega]
        exact (Nat.dvd_add_right hd').2 (Nat.dvd_refl _)
      · rw [show x + 2 ^ n - 1 + 1 = x + 2 ^ n by omega] at hm
        exact dvd_pow_top hd hm
    have h3 : (lsL H d ns M (x + 2 ^ n - b)).length = (lsL H d ns M (x - b)).length + 1 := by
      rw [show x + 2 ^ n - b = (x + 2 ^ n - 1 - b) + 1 by omega, lsL, stepL_len, hn, h1]
      omega
    rw [Nat.pow_succ, show x + 2 ^ n * 2 - 1 - b = x + 2 ^ n + 2 ^ n - 1 - b by omega, h2, h3]
    omega
theorem ns_le (hns : ∀ j, IsNs b (b + j) (ns j)) (j : Nat) : ns j ≤ (lsL H d ns M j).length := by
  obtain ⟨h1, h2, _⟩ := hns j
  have hp := Nat.two_pow_pos (ns j)
  have hd : 2 ^ ns j ∣ b + j + 1 - 2 ^ ns j := Nat.dvd_sub h1 (Nat.dvd_refl _)
  have := grown (H := H) (d := d) (M := M) hns (ns j) (b + j + 1 - 2 ^ ns j) (by omega) hd
  rw [show b + j + 1 - 2 ^ ns j + 2 ^ ns j - 1 - b = j by omega] at this
  omega
theorem lsL_len_eq {M' : Nat → α} : ∀ j, (lsL H d ns M j).length = (lsL H d ns M' j).length
  | 0 => rfl
  | j + 1 => by
    rw [lsL, lsL, stepL_len, stepL_len, lsL_len_eq (M' := M') j]
theorem mg_inj {P : α → Prop} (hi : ∀ x y x' y', P x → P x' → H x y = H x' y' → x = x' ∧ y = y') {l l' : List α} (hl : l.length = l'.length) (hP : ∀ x ∈ l, P x) (hP' : ∀ x ∈ l', P x) : ∀ (n : Nat) (s s' : α), n ≤ l.length → mg H d l n s = mg H d l' n s' → s = s' ∧ ∀ i, i < n → l.getD (l.length - (i + 1)) d = l'.getD (l.length - (i + 1)) d
  | 0, s, s', _, h => ⟨h, fun i hi => by omega⟩
  | n + 1, s, s', hn, h => by
    rw [mg, mg] at h
    have hm : ∀ (l : List α), (∀ x ∈ l, P x) → n + 1 ≤ l.length → P (l.getD (l.length - (n + 1)) d) := fun l hp hn => by
      rw [List.getD_eq_getElem?_getD, List.getElem?_eq_getElem (by omega), Option.getD_some]
      exact hp _ (List.getElem_mem _)
    obtain ⟨e1, e2⟩ := hi _ _ _ _ (hm l hP hn) (hm l' hP' (by omega)) h
    obtain ⟨e3, e4⟩ := mg_inj hi hl hP hP' n s s' (by omega) e2
    refine ⟨e3, fun i hi => ?_⟩
    by_cases he : i = n
    · subst he
      rw [e1, hl]
    · exact e4 i (by omega)
theorem stepL_inj {P : α → Prop} (hi : ∀ x y x' y', P x → P x' → H x y = H x' y' → x = x' ∧ y = y') {l l' : List α} (hl : l.length = l'.length) (hP : ∀ x ∈ l, P x) (hP' : ∀ x ∈ l', P x) {n : Nat} (hn : n ≤ l.length) {s s' : α} (h : stepL H d n l s = stepL H d n l' s') : l = l' ∧ s = s' := by
  unfold stepL at h
  have h1 := List.append_inj h (by rw [List.length_take, List.length_take]; omega)
  obtain ⟨e1, e2⟩ := h1
  injection e2 with e2 _
  obtain ⟨e3, e4⟩ := mg_inj hi hl hP hP' n s s' hn e2
  refine ⟨List.ext_getElem hl fun i h1 h2 => ?_, e3⟩
  rcases Nat.lt_or_ge i (l.length - n) with hlt | hge
  · have := congrArg (fun t => t[i]?) e1
    simp only [List.getElem?_take] at this
    rw [if_pos hlt, if_pos (by omega), List.getElem?_eq_getElem h1, List.getElem?_eq_getElem h2] at this
    exact Option.some.inj this
  · have := e4 (l.length - (i + 1)) (by omega)
    rw [show l.length - (l.length - (i + 1) + 1) = i by omega, List.getD_eq_getElem?_getD, List.getD_eq_getElem?_getD, List.getElem?_eq_getElem h1, List.getElem?_eq_getElem h2] at this
    exact this
theorem lsL_inj {P : α → Prop} (hi : ∀ x y x' y', P x → P x' → H x y = H x' y' → x = x' ∧ y = y') (hns : ∀ j, IsNs b (b + j) (ns j)) {M' : Nat → α} : ∀ (j : Nat), (∀ i, i ≤ j → ∀ x ∈ lsL H d ns M i, P x) → (∀ i, i ≤ j → ∀ x ∈ lsL H d ns M' i, P x) → lsL H d ns M j = lsL H d ns M' j → ∀ i, i < j → M i = M' i
  | 0, _, _, _, i, hi => by omega
  | j + 1, hP, hP', h, i, hij => by
    rw [lsL, lsL] at h
    obtain ⟨e1, e2⟩ := stepL_inj hi (lsL_len_eq j) (hP j (by omega)) (hP' j (by omega)) (ns_le hns j) h
    by_cases he : i = j
    · subst he
      exact e2
    · exact lsL_inj hi hns j (fun i h => hP i (by omega)) (fun i h => hP' i (by omega)) e1 i (by omega)
def tot (len : α → Nat) : List α → Nat
  | [] => 0
  | x :: l => len x + tot len l
theorem tot_append (len : α → Nat) : ∀ (l m : List α), tot len (l ++ m) = tot len l + tot len m
  | [], m => by simp [tot]
  | x :: l, m => by rw [List.cons_append, tot, tot, tot_append len l m]; omega
theorem tot_mem (len : α → Nat) : ∀ {l : List α} {x : α}, x ∈ l → len x ≤ tot len l
  | y :: l, x, h => by
    rw [tot]
    rcases List.mem_cons.1 h with rfl | h
    · omega
    · have := tot_mem len h
      omega
end
section
variable {α : Type} {H : α → α → α} {d : α} {b : Nat} {ns : Nat → Nat} {M : Nat → α} {pc : Nat → Nat}
end
end Go.Proofs.YtfhcpniibiobgaaDoor.Core
namespace Go.Proofs.YtfhcpniibiobgaaDoor.M
open Go
theorem chain_cover : ∀ {l : List (Nat × Nat)} {p e : Nat}, Chain p e l → ∀ pos, p ≤ pos → pos < e → ∃ x ∈ l, 2 ^ x.1 * x.2 ≤ pos ∧ pos < 2 ^ x.1 * (x.2 + 1)
  | [], p, e, h, pos, h1, h2 => by
    have h3 : p = e := h
    omega
  | x :: l, p, e, h, pos, h1, h2 => by
    by_cases hlt : pos < 2 ^ x.1 * (x.2 + 1)
    · exact ⟨x, List.mem_cons_self, by rw [← h.1]; exact h1, hlt⟩
    · obtain ⟨y, hy, q⟩ := chain_cover h.2 pos (by omega) h2
      exact ⟨y, List.mem_cons_of_mem _ hy, q⟩
theorem mx_mem {b e : Nat} {W : List (Nat × Nat)} (h : IsN b e W) {l i : Nat} (hx : Mx b e l i) : (l, i) ∈ W := by
  have hp := Nat.two_pow_pos l
  have h1 := hx.1.1
  have h2 := hx.1.2
  rw [Nat.mul_add, Nat.mul_one] at h2
  obtain ⟨x, hxW, q1, q2⟩ := chain_cover h.chain (2 ^ l * i) h1 (by omega)
  have m := h.mx x hxW
  have e1 := div_of q1 q2
  have e2 := in_start l i
  rw [← e1] at m
  have hx' : Mx b e l (2 ^ l * i / 2 ^ l) := by rw [e2]; exact hx
  have e3 := mx_one m hx'
  have e4 : x = (l, i) := Prod.ext e3 (by rw [← e1, e3, e2])
  rw [← e4]
  exact hxW
theorem chain_split : ∀ {X Y : List (Nat × Nat)} {x : Nat × Nat} {p e : Nat}, Chain p e (X ++ x :: Y) → Chain p (2 ^ x.1 * x.2) X ∧ Chain (2 ^ x.1 * (x.2 + 1)) e Y
  | [], _, _, _, _, h => ⟨h.1, h.2⟩
  | _ :: _, _, _, _, _, h => ⟨⟨h.1, (chain_split h.2).1⟩, (chain_split h.2).2⟩
def lefts (q low : Nat) : Nat → List (Nat × Nat)
  | 0 => []
  | n + 1 => if q / 2 ^ (low + n) % 2 = 1 then (low + n, q / 2 ^ (low + n) - 1) :: lefts q low n else lefts q low n
def rights (q low : Nat) : Nat → List (Nat × Nat)
  | 0 => []
  | n + 1 => if q / 2 ^ (low + n) % 2 = 1 then rights q low n else rights q low n ++ [(low + n, q / 2 ^ (low + n) + 1)]
theorem up_half (q k : Nat) : q / 2 ^ (k + 1) = q / 2 ^ k / 2 := half_div q k
theorem lefts_chain {q low : Nat} (hd : 2 ^ low ∣ q) : ∀ n, Chain (2 ^ (low + n) * (q / 2 ^ (low + n))) q (lefts q low n)
  | 0 => Nat.mul_div_cancel' hd
  | n + 1 => by
    have ih := lefts_chain hd n
    have e1 : 2 ^ (low + (n + 1)) * (q / 2 ^ (low + (n + 1))) = 2 ^ (low + n) * (2 * (q / 2 ^ (low + n) / 2)) := by
      rw [show low + (n + 1) = low + n + 1 by omega, up_half, Nat.pow_succ, Nat.mul_assoc]
    rw [lefts, e1]
    generalize q / 2 ^ (low + n) = B at ih ⊢
    split
    · refine ⟨by show _ = 2 ^ (low + n) * (B - 1); congr 1; omega, ?_⟩
      show Chain (2 ^ (low + n) * (B - 1 + 1)) q (lefts q low n)
      rw [show B - 1 + 1 = B by omega]
      exact ih
    · rw [show 2 * (B / 2) = B by omega]
      exact ih
theorem rights_chain {q low : Nat} : ∀ n, Chain (2 ^ low * (q / 2 ^ low + 1)) (2 ^ (low + n) * (q / 2 ^ (low + n) + 1)) (rights q low n)
  | 0 => rfl
  | n + 1 => by
    have ih := rights_chain (q := q) (low := low) n
    have e1 : 2 ^ (low + (n + 1)) * (q / 2 ^ (low + (n + 1)) + 1) = 2 ^ (low + n) * (2 * (q / 2 ^ (low + n) / 2) + 2) := by
      rw [show low + (n + 1) = low + n + 1 by omega, up_half, Nat.pow_succ, Nat.mul_assoc, Nat.mul_add 2]
    rw [rights, e1]
    generalize q / 2 ^ (low + n) = B at ih ⊢
    split
    · rw [show 2 * (B / 2) + 2 = B + 1 by omega]
      exact ih
    · rw [show 2 * (B / 2) + 2 = B + 1 + 1 by omega]
      exact chain_append ih ⟨rfl, rfl⟩
theorem lefts_mem {q low : Nat} : ∀ n, ∀ x ∈ lefts q low n, ∃ k, low ≤ k ∧ k < low + n ∧ q / 2 ^ k % 2 = 1 ∧ x = (k, q / 2 ^ k - 1)
  | 0, x, hx => by simp [lefts] at hx
  | n + 1, x, hx => by
    rw [lefts] at hx
    split at hx
    · rcases List.mem_cons.1 hx with rfl | hx
      · exact ⟨low + n, by omega, by omega, by assumption, rfl⟩
      · obtain ⟨k, h1, h2, h3, h4⟩ := lefts_mem n x hx
        exact ⟨k, h1, by omega, h3, h4⟩
    · obtain ⟨k, h1, h2, h3, h4⟩ := lefts_mem n x hx
      exact ⟨k, h1, by omega, h3, h4⟩
theorem rights_mem {q low : Nat} : ∀ n, ∀ x ∈ rights q low n, ∃ k, low ≤ k ∧ k < low + n ∧ q / 2 ^ k % 2 = 0 ∧ x = (k, q / 2 ^ k + 1)
  | 0, x, hx => by simp [rights] at hx
  | n + 1, x, hx => by
    rw [rights] at hx
    split at hx
    · obtain ⟨k, h1, h2, h3, h4⟩ := rights_mem n x hx
      exact ⟨k, h1, by omega, h3, h4⟩
    · rcases List.mem_append.1 hx with hx | hx
      · obtain ⟨k, h1, h2, h3, h4⟩ := rights_mem n x hx
        exact ⟨k, h1, by omega, h3, h4⟩
      · exact ⟨low + n, by omega, by omega, by omega, List.mem_singleton.1 hx⟩
theorem lefts_len {q low : Nat} : ∀ n, (lefts q low n).length = pc n (q / 2 ^ low)
  | 0 => rfl
  | n + 1 => by
    have ih := lefts_len (q := q) (low := low) n
    have h1 := pc_add n 1 (q / 2 ^ low)
    rw [Nat.div_div_eq_div_mul, ← Nat.pow_add, show pc 1 (q / 2 ^ (low + n)) = q / 2 ^ (low + n) % 2 from rfl] at h1
    rw [lefts, h1]
    split
    · rw [List.length_cons, ih]
      omega
    · rw [ih]
      omega
theorem rights_len {q low : Nat} : ∀ n, (rights q low n).length + pc n (q / 2 ^ low) = n
  | 0 => rfl
  | n + 1 => by
    have ih := rights_len (q := q) (low := low) n
    have h1 := pc_add n 1 (q / 2 ^ low)
    rw [Nat.div_div_eq_div_mul, ← Nat.pow_add, show pc 1 (q / 2 ^ (low + n)) = q / 2 ^ (low + n) % 2 from rfl] at h1
    rw [rights, h1]
    split
    · omega
    · rw [List.length_append, List.length_singleton]
      omega
theorem lefts_at {q low : Nat} : ∀ n j, j < n → q / 2 ^ (low + j) % 2 = 1 → ∃ A, lefts q low n = A ++ (low + j, q / 2 ^ (low + j) - 1) :: lefts q low j
  | 0, j, hj, _ => by omega
  | n + 1, j, hj, hb => by
    rw [lefts]
    by_cases e : j = n
    · subst e
      rw [if_pos hb]
      exact ⟨[], rfl⟩
    · obtain ⟨A, hA⟩ := lefts_at n j (by omega) hb
      split
      · exact ⟨_ :: A, by rw [hA]; rfl⟩
      · exact ⟨A, hA⟩
theorem rights_at {q low : Nat} : ∀ n j, j < n → q / 2 ^ (low + j) % 2 = 0 → ∃ C, rights q low n = rights q low j ++ (low + j, q / 2 ^ (low + j) + 1) :: C
  | 0, j, hj, _ => by omega
  | n + 1, j, hj, hb => by
    rw [rights]
    by_cases e : j = n
    · subst e
      rw [if_neg (by omega)]
      exact ⟨[], rfl⟩
    · obtain ⟨C, hC⟩ := rights_at n j (by omega) hb
      split
      · exact ⟨C, hC⟩
      · exact ⟨C ++ _, by rw [hC, List.append_assoc]; rfl⟩
theorem odd_up {B : Nat} (h : B % 2 = 1) : 2 * ((B - 1) / 2 + 1) = B + 1 := by omega
structure Seam (p q r low : Nat) : Prop where
  lt1 : p < q
  lt2 : q < r
  dvd : 2 ^ low ∣ q
  odd : q / 2 ^ low % 2 = 1
theorem Seam.even_lo {p q r low : Nat} (h : Seam p q r low) {k : Nat} (hk : low < k) : 2 ^ k * (q / 2 ^ k) < q := by
  have h1 := div_lo q k
  rcases Nat.lt_or_ge (2 ^ k * (q / 2 ^ k)) q with h2 | h2
  · exact h2
  · exfalso
    obtain ⟨d, rfl⟩ : ∃ d, k = low + 1 + d := ⟨k - low - 1, by omega⟩
    have h3 : 2 ^ (low + 1 + d) * (q / 2 ^ (low + 1 + d)) = q := by omega
    generalize q / 2 ^ (low + 1 + d) = Q at h3
    rw [Nat.pow_add, Nat.pow_succ, Nat.mul_assoc, Nat.mul_assoc] at h3
    have h4 := h.odd
    rw [← h3, Nat.mul_div_cancel_left _ (Nat.two_pow_pos low)] at h4
    omega
theorem Seam.over {p q r low : Nat} (h : Seam p q r low) {l i : Nat} (h1 : 2 ^ l * i < q) (h2 : q < 2 ^ l * (i + 1)) : low < l ∧ i = q / 2 ^ l := by
  have e1 : q / 2 ^ l = i := div_of (Nat.le_of_lt h1) h2
  refine ⟨?_, e1.symm⟩
  rcases Nat.lt_or_ge low l with h3 | h3
  · exact h3
  · exfalso
    obtain ⟨c, hc⟩ := Nat.dvd_trans (Nat.pow_dvd_pow 2 h3) h.dvd
    rw [hc, Nat.mul_div_cancel_left _ (Nat.two_pow_pos l)] at e1
    rw [← e1, ← hc] at h1
    omega
theorem Seam.apart {p q r low : Nat} (h : Seam p q r low) (hno : ¬ In p r (low + 1) (q / 2 ^ (low + 1))) {W1 W2 : List (Nat × Nat)} (h1 : IsN p q W1) (h2 : IsN q r W2) : IsN p r (W1 ++ W2) := by
  have key : ∀ l i, In p r l i → 2 ^ l * i < q → q < 2 ^ l * (i + 1) → False := fun l i hi a b => by
    obtain ⟨c1, c2⟩ := h.over a b
    subst c2
    exact hno (in_mono (l' := l) (by omega) hi)
  have q1 := h.lt1
  have q2 := h.lt2
  refine ⟨chain_append h1.chain h2.chain, fun x hx => ?_⟩
  rcases List.mem_append.1 hx with hx | hx
  · have m := h1.mx x hx
    refine ⟨⟨m.1.1, Nat.le_trans m.1.2 (by omega)⟩, fun hp => ?_⟩
    have hn : ¬ 2 ^ (x.1 + 1) * (x.2 / 2 + 1) ≤ q := fun hh => m.2 ⟨hp.1, hh⟩
    refine key _ _ hp ?_ (by omega)
    have h3 := m.1.2
    have h4 : 2 ^ (x.1 + 1) * (x.2 / 2) ≤ 2 ^ x.1 * x.2 := by
      rw [Nat.pow_succ, Nat.mul_assoc]
      exact Nat.mul_le_mul_left _ (by omega)
    have := Nat.two_pow_pos x.1
    rw [Nat.mul_add] at h3
    omega
  · have m := h2.mx x hx
    refine ⟨⟨Nat.le_trans (by omega) m.1.1, m.1.2⟩, fun hp => ?_⟩
    have hn : ¬ q ≤ 2 ^ (x.1 + 1) * (x.2 / 2) := fun hh => m.2 ⟨hh, hp.2⟩
    refine key _ _ hp (by omega) ?_
    have h3 := m.1.1
    have h4 : 2 ^ x.1 * (x.2 + 1) ≤ 2 ^ (x.1 + 1) * (x.2 / 2 + 1) := by
      rw [Nat.pow_succ, Nat.mul_assoc]
      exact Nat.mul_le_mul_left _ (by omega)
    have := Nat.two_pow_pos x.1
    rw [Nat.mul_add] at h4
    omega
structure Join (p q r low n : Nat) (W1 W2 W : List (Nat × Nat)) (X Y : List (Nat × Nat)) (s t : Nat × Nat) : Prop where
  w1 : W1 = X ++ lefts q low n
  w2 : W2 = s :: (rights q low n ++ Y)
  w : W = X ++ t :: Y
  top : 0 < n → s = (low, q / 2 ^ low) ∧ t = (low + n, q / 2 ^ (low + n))
  low0 : n = 0 → t = s
  sm : 0 < n → ∀ k, low < k → 2 ^ k * (q / 2 ^ k) < q
theorem Seam.join0 {p q r low : Nat} (h : Seam p q r low) (hno : ¬ In p r (low + 1) (q / 2 ^ (low + 1))) {W1 W2 W : List (Nat × Nat)} (h1 : IsN p q W1) (h2 : IsN q r W2) (hw : IsN p r W) : ∃ X Y s t, Join p q r low 0 W1 W2 W X Y s t := by
  obtain rfl := isN_uniq hw (h.apart hno h1 h2)
  rcases W2 with _ | ⟨s, Y⟩
  · have h3 : q = r := h2.chain
    have := h.lt2
    omega
  · exact ⟨W1, Y, s, s, by simp [lefts], by simp [rights], rfl, fun hn => by omega, fun _ => rfl, fun hn => by omega⟩
theorem Seam.join {p q r low n : Nat} (h : Seam p q r low) (hn : 0 < n) (hi : In p r (low + n) (q / 2 ^ (low + n))) (hno : ¬ In p r (low + n + 1) (q / 2 ^ (low + n + 1))) {W1 W2 W : List (Nat × Nat)} (h1 : IsN p q W1) (h2 : IsN q r W2) (hw : IsN p r W) : ∃ X Y s t, Join p q r low n W1 W2 W X Y s t := by
  have q1 := h.lt1
  have q2 := h.lt2
  have hm : Mx p r (low + n) (q / 2 ^ (low + n)) := ⟨hi, by rw [← half_div]; exact hno⟩
  obtain ⟨X, Y, hXY⟩ := List.append_of_mem (mx_mem hw hm)
  subst hXY
  obtain ⟨cX, cY⟩ := chain_split hw.chain
  have hlo := h.even_lo (show low < low + n by omega)
  have hhi := div_hi q (low + n)
  have eq0 : 2 ^ low * (q / 2 ^ low) = q := Nat.mul_div_cancel' h.dvd
  have cL := lefts_chain h.dvd n
  have cR : Chain q (2 ^ (low + n) * (q / 2 ^ (low + n) + 1)) ((low, q / 2 ^ low) :: rights q low n) := ⟨eq0.symm, rights_chain n⟩
  have n1 : IsN p q (X ++ lefts q low n) := by
    refine ⟨chain_append cX cL, fun x hx => ?_⟩
    rcases List.mem_append.1 hx with hx | hx
    · have m := hw.mx x (by simp [hx])
      have h3 := (chain_mem cX x hx).2
      refine ⟨⟨m.1.1, by show 2 ^ x.1 * (x.2 + 1) ≤ q; have h4 : 2 ^ x.1 * (x.2 + 1) ≤ 2 ^ (low + n) * (q / 2 ^ (low + n)) := h3; omega⟩, fun hp => m.2 ⟨hp.1, Nat.le_trans hp.2 (by omega)⟩⟩
    · have h3 := chain_mem cL x hx
      obtain ⟨k, k1, k2, k3, rfl⟩ := lefts_mem n x hx
      refine ⟨⟨Nat.le_trans hi.1 h3.1, h3.2⟩, fun hp => ?_⟩
      have h4 : 2 ^ (k + 1) * ((q / 2 ^ k - 1) / 2 + 1) ≤ q := hp.2
      have h5 := div_hi q k
      rw [Nat.pow_succ, Nat.mul_assoc, odd_up k3] at h4
      omega
  have n2 : IsN q r (((low, q / 2 ^ low) :: rights q low n) ++ Y) := by
    refine ⟨chain_append cR cY, fun x hx => ?_⟩
    rcases List.mem_append.1 hx with hx | hx
    · have h3 := chain_mem cR x hx
      refine ⟨⟨h3.1, Nat.le_trans h3.2 hi.2⟩, fun hp => ?_⟩
      rcases List.mem_cons.1 hx with rfl | hx
      · have h4 : q ≤ 2 ^ (low + 1) * (q / 2 ^ low / 2) := hp.1
        have h5 := h.odd
        have h6 := Nat.two_pow_pos low
        rw [Nat.pow_succ, Nat.mul_assoc, show 2 * (q / 2 ^ low / 2) = q / 2 ^ low - 1 by omega, Nat.mul_sub, Nat.mul_one, eq0] at h4
        omega
      · obtain ⟨k, k1, k2, k3, rfl⟩ := rights_mem n x hx
        have hk : low < k := by
          rcases Nat.lt_or_ge low k with hh | hh
          · exact hh
          · obtain rfl : k = low := by omega
            have := h.odd
            omega
        have h4 : q ≤ 2 ^ (k + 1) * ((q / 2 ^ k + 1) / 2) := hp.1
        have h5 := h.even_lo hk
        rw [Nat.pow_succ, Nat.mul_assoc, show 2 * ((q / 2 ^ k + 1) / 2) = q / 2 ^ k by omega] at h4
        omega
    · have m := hw.mx x (by simp [hx])
      have h3 := (chain_mem cY x hx).1
      refine ⟨⟨by show q ≤ 2 ^ x.1 * x.2; have h4 : 2 ^ (low + n) * (q / 2 ^ (low + n) + 1) ≤ 2 ^ x.1 * x.2 := h3; omega, m.1.2⟩, fun hp => m.2 ⟨Nat.le_trans (by omega) hp.1, hp.2⟩⟩
  obtain rfl := isN_uniq h1 n1
  obtain rfl := isN_uniq h2 n2
  exact ⟨X, Y, _, _, rfl, by rw [List.cons_append], rfl, fun _ => ⟨rfl, rfl⟩, fun h0 => by omega, fun _ k hk => h.even_lo hk⟩
theorem same_hi' (x y j : Nat) : x / 2 ^ j = y / 2 ^ j ↔ x ^^^ y < 2 ^ j := by
  constructor
  · intro h
    have h1 : (x ^^^ y) / 2 ^ j = 0 := by rw [Nat.xor_div_two_pow, h, Nat.xor_self]
    exact (Nat.div_eq_zero_iff_lt (Nat.two_pow_pos j)).1 h1
  · intro h
    have h1 : (x ^^^ y) / 2 ^ j = 0 := Nat.div_eq_of_lt h
    rw [Nat.xor_div_two_pow] at h1
    rw [← Nat.xor_zero (x / 2 ^ j), ← Nat.xor_self (y / 2 ^ j), ← Nat.xor_assoc, h1, Nat.zero_xor]
theorem Seam.in_iff {p q r low : Nat} (h : Seam p q r low) {k : Nat} (hk : low < k) : In p r k (q / 2 ^ k) ↔ (p = 0 ∨ 2 ^ k ≤ q ^^^ (p - 1)) ∧ 2 ^ k ≤ (q - 1) ^^^ r := by
  have hp := Nat.two_pow_pos k
  have h1 := h.even_lo hk
  have h2 := div_hi q k
  have q1 := h.lt1
  have q2 := h.lt2
  have e1 : (q - 1) / 2 ^ k = q / 2 ^ k := div_of (by omega) (by omega)
  have a1 : 2 ^ k * (q / 2 ^ k + 1) ≤ r ↔ 2 ^ k ≤ (q - 1) ^^^ r := by
    have h3 := same_hi' (q - 1) r k
    rw [e1] at h3
    have h4 : q / 2 ^ k ≤ r / 2 ^ k := Nat.div_le_div_right (by omega)
    have h5 := Nat.le_div_iff_mul_le hp (x := q / 2 ^ k + 1) (y := r)
    rw [Nat.mul_comm] at h5
    constructor
    · intro h6
      have h7 := h5.2 h6
      rcases Nat.lt_or_ge ((q - 1) ^^^ r) (2 ^ k) with h8 | h8
      · have := h3.2 h8
        omega
      · exact h8
    · intro h6
      refine h5.1 ?_
      rcases Nat.lt_or_ge (q / 2 ^ k) (r / 2 ^ k) with h8 | h8
      · exact h8
      · have := h3.1 (by omega)
        omega
  have a2 : p ≤ 2 ^ k * (q / 2 ^ k) ↔ (p = 0 ∨ 2 ^ k ≤ q ^^^ (p - 1)) := by
    by_cases h0 : p = 0
    · simp [h0]
    · have h3 := same_hi' q (p - 1) k
      have h4 : (p - 1) / 2 ^ k ≤ q / 2 ^ k := Nat.div_le_div_right (by omega)
      have h5 := Nat.div_lt_iff_lt_mul hp (x := p - 1) (y := q / 2 ^ k)
      rw [Nat.mul_comm (q / 2 ^ k)] at h5
      constructor
      · intro h6
        right
        have h7 := h5.2 (by omega)
        rcases Nat.lt_or_ge (q ^^^ (p - 1)) (2 ^ k) with h8 | h8
        · have := h3.2 h8
          omega
        · exact h8
      · intro h6
        have h7 : 2 ^ k ≤ q ^^^ (p - 1) := by
          rcases h6 with h6 | h6
          · exact absurd h6 h0
          · exact h6
        have h8 : (p - 1) / 2 ^ k < q / 2 ^ k := by
          rcases Nat.lt_or_ge ((p - 1) / 2 ^ k) (q / 2 ^ k) with h9 | h9
          · exact h9
          · have := h3.1 (by omega)
            omega
        have := h5.1 h8
        omega
  constructor
  · intro hi
    exact ⟨a2.1 hi.1, a1.1 hi.2⟩
  · intro hi
    exact ⟨a2.2 hi.1, a1.2 hi.2⟩
end Go.Proofs.YtfhcpniibiobgaaDoor.M
namespace Go.Proofs.YtfhcpniibiobgaaDoor.Pure
open Go.RowKit Go.Proofs.YtfhcpniibiobgaaDoorW.PrintWords Go.Proofs.YtfhcpniibiobgaaDoorW.PrintMore Go.Proofs.YtfhcpniibiobgaaDoorW.PrintLast
open Go.Proofs.YtfhcpniibiobgaaDoor.M (IsN isN_same isN_uniq Seam Join In pc lefts rights)
theorem merge_path {p q r : Nat} (hpq : p ≤ q) (hqr : q < r) (hr : r < 18446744073709551616) (hq0 : q = 0 → r ≠ 18446744073709551615) {W1 W2 W : List (Nat × Nat)} (h1 : IsN p q W1) (h2 : IsN q r W2) (hw : IsN p r W) :
    ∃ (low hgh n : Nat) (X Y : List (Nat × Nat)) (s t : Nat × Nat), Qf.compact_getMergePath.f (p : Int) (q : Int) (r : Int) = some ((low : Int), (hgh : Int)) ∧ low ≤ 64 ∧ hgh ≤ 63 ∧ ((hgh < low ∧ n = 0) ∨ low + n = hgh) ∧ Join p q r low n W1 W2 W X Y s t := by
  obtain ⟨pe, p1, p2, p3, p4⟩ := before q (by omega)
  have hz2 : pe ^^^ r ≠ 0 := fun h0 => by
    have he := (M.same_hi' pe r 0).2 (by rw [h0]; decide)
    rw [Nat.pow_zero, Nat.div_one, Nat.div_one] at he
    by_cases h : q = 0
    · have := p4 h
      have := hq0 h
      omega
    · have := p3 h
      omega
  have hl2 := lt64 p2 hr
  obtain ⟨g1, g2, g3, g4⟩ := M.len_spec _ hz2 hl2
  have c2 : q = 0 → Lib.ctz 64 q = 64 := fun h => by rw [h]; rfl
  have c3 : Lib.ctz 64 q ≤ 64 := by
    by_cases h : q = 0
    · rw [c2 h]
      omega
    · obtain ⟨m, _, h2⟩ := M.ctz_spec q h (by omega)
      omega
  have ht : IntKind.u64.wrap ((Lib.ctz 64 q : Nat) : Int) = ((Lib.ctz 64 q : Nat) : Int) := wu64 (by omega) (by omega)
  obtain ⟨H1, hH1, hH1b⟩ : ∃ H1, Qf.compact_getMergePath.f (p : Int) (q : Int) (r : Int) = some (((Lib.ctz 64 q : Nat) : Int), ((min H1 (Lib.bitLen (pe ^^^ r)) - 1 : Nat) : Int)) ∧ ((p = 0 ∧ H1 = 64) ∨ (p ≠ 0 ∧ 1 ≤ H1 ∧ H1 ≤ 64 ∧ 2 ^ (H1 - 1) ≤ q ^^^ (p - 1) ∧ q ^^^ (p - 1) < 2 ^ H1)) := by
    unfold Qf.compact_getMergePath.f
    rw [tz64 q (by omega), Option.bind_some, p1, bits_xor_u64_nat pe r p2 hr, len64 _ hl2]
    by_cases hb : p = 0
    · subst hb
      refine ⟨64, ?_, .inl ⟨rfl, rfl⟩⟩
      rw [if_pos (by rfl), Option.bind_some, ht]
      exact tie_min (h1 := 64) _ _ _ (wlast _ g1 g2) (by omega)
    · have hz1 : q ^^^ (p - 1) ≠ 0 := fun h0 => by
        have he := (M.same_hi' q (p - 1) 0).2 (by rw [h0]; decide)
        rw [Nat.pow_zero, Nat.div_one, Nat.div_one] at he
        omega
      have hl1 := lt64 (show q < 18446744073709551616 by omega) (show p - 1 < 18446744073709551616 by omega)
      obtain ⟨k1, k2, k3, k4⟩ := M.len_spec _ hz1 hl1
      refine ⟨Lib.bitLen (q ^^^ (p - 1)), ?_, .inr ⟨hb, k1, k2, k3, k4⟩⟩
      have e1 : IntKind.u64.wrap ((p : Int) - 1) = ((p - 1 : Nat) : Int) := by rw [wu64 (by omega) (by omega)]; omega
      rw [if_neg (by omega), e1, bits_xor_u64_nat q (p - 1) (by omega) (by omega), len64 _ hl1, Option.bind_some, Option.bind_some, ht]
      exact tie_min _ _ _ (wlast _ g1 g2) (wlast _ k1 k2)
  have hne : ∃ s Y, W2 = s :: Y := by
    rcases W2 with _ | ⟨s, Y⟩
    · have h3 : q = r := h2.chain
      omega
    · exact ⟨s, Y, rfl⟩
  have flat : p = q → Join p q r (Lib.ctz 64 q) 0 W1 W2 W [] (W2.drop 1) (W2.getD 0 (0, 0)) (W2.getD 0 (0, 0)) := fun he => by
    obtain ⟨s, Y, rfl⟩ := hne
    subst he
    obtain rfl := isN_same h1
    obtain rfl := isN_uniq hw h2
    exact ⟨rfl, rfl, rfl, fun h => by omega, fun _ => rfl, fun h => by omega⟩
  generalize hH2 : Lib.bitLen (pe ^^^ r) = H2 at *
  have hhgh : min H1 H2 - 1 ≤ 63 := by omega
  by_cases e0 : q = 0
  · refine ⟨Lib.ctz 64 q, min H1 H2 - 1, 0, _, _, _, _, hH1, c3, hhgh, .inl ⟨by rw [c2 e0]; omega, rfl⟩, flat (by omega)⟩
  obtain ⟨m, hm, _⟩ := M.ctz_spec q e0 (by omega)
  rw [p3 e0] at g3 g4
  generalize Lib.ctz 64 q = low at *
  have hp := Nat.two_pow_pos low
  have hodd : q / 2 ^ low % 2 = 1 := by
    rw [hm, Nat.mul_div_cancel_left _ hp]
    omega
  by_cases hpe : p = q
  · have hs : Seam (q - 1) q r low := ⟨by omega, hqr, ⟨_, hm⟩, hodd⟩
    have h3 := hs.even_lo (show low < low + 1 by omega)
    have h4 := M.div_hi q (low + 1)
    have h5 : (q - 1) / 2 ^ (low + 1) = q / 2 ^ (low + 1) := M.div_of (by omega) (by omega)
    have h6 := (M.same_hi' q (q - 1) (low + 1)).1 h5.symm
    have h7 : min H1 H2 - 1 ≤ low := by
      rcases hH1b with h | h
      · omega
      · obtain ⟨_, _, _, h8, _⟩ := h
        rw [hpe] at h8
        have h9 : H1 - 1 < low + 1 := (Nat.pow_lt_pow_iff_right (show 1 < 2 by omega)).1 (Nat.lt_of_le_of_lt h8 h6)
        omega
    refine ⟨low, min H1 H2 - 1, 0, _, _, _, _, hH1, c3, hhgh, ?_, flat hpe⟩
    omega
  · have hs : Seam p q r low := ⟨by omega, hqr, ⟨_, hm⟩, hodd⟩
    have key : ∀ k, low < k → In p r k (q / 2 ^ k) → k < min H1 H2 := fun k hk hi => by
      obtain ⟨a1, a2⟩ := (hs.in_iff hk).1 hi
      have b2 : k < H2 := (Nat.pow_lt_pow_iff_right (show 1 < 2 by omega)).1 (Nat.lt_of_le_of_lt a2 g4)
      rcases hH1b with h | h
      · omega
      · obtain ⟨h0, _, _, _, h9⟩ := h
        have b1 : k < H1 := by
          rcases a1 with a1 | a1
          · exact absurd a1 h0
          · exact (Nat.pow_lt_pow_iff_right (show 1 < 2 by omega)).1 (Nat.lt_of_le_of_lt a1 h9)
        omega
    by_cases hn : min H1 H2 - 1 ≤ low
    · obtain ⟨X, Y, s, t, hj⟩ := hs.join0 (fun hi => by have := key _ (show low < low + 1 by omega) hi; omega) h1 h2 hw
      refine ⟨low, min H1 H2 - 1, 0, X, Y, s, t, hH1, c3, hhgh, ?_, hj⟩
      omega
    · obtain ⟨n, hn2⟩ : ∃ n, low + n = min H1 H2 - 1 := ⟨min H1 H2 - 1 - low, by omega⟩
      have hin : In p r (low + n) (q / 2 ^ (low + n)) := (hs.in_iff (by omega)).2 ⟨by
        rcases hH1b with h | h
        · exact .inl h.1
        · exact .inr (Nat.le_trans (Nat.pow_le_pow_right (by omega) (by omega)) h.2.2.2.1), Nat.le_trans (Nat.pow_le_pow_right (by omega) (by omega)) g3⟩
      obtain ⟨X, Y, s, t, hj⟩ := hs.join (n := n) (by omega) hin (fun hi => by have := key _ (by omega) hi; omega) h1 h2 hw
      exact ⟨low, min H1 H2 - 1, n, X, Y, s, t, hH1, c3, hhgh, .inr hn2, hj⟩
end Go.Proofs.YtfhcpniibiobgaaDoor.Pure
