/- What one leaf more does to a range: counted and bound: plain. -/
namespace Go.Proofs.YtfhcpniibiobgaaDoor.Core
/-- Merges when leaf e comes to a range that begins at b. -/
def IsNs (b e n : Nat) : Prop := 2 ^ n ∣ e + 1 ∧ b + 2 ^ n ≤ e + 1 ∧ ∀ m, 2 ^ m ∣ e + 1 → b + 2 ^ m ≤ e + 1 → m ≤ n
theorem isNs_uniq {b e n m : Nat} (h1 : IsNs b e n) (h2 : IsNs b e m) : n = m :=
  Nat.le_antisymm (h2.2.2 n h1.1 h1.2.1) (h1.2.2 m h2.1 h2.2.1)
theorem dvd_pow_top {x n m : Nat} (h : 2 ^ (n + 1) ∣ x) (hm : 2 ^ m ∣ x + 2 ^ n) : m ≤ n := by
  rcases Nat.lt_or_ge n m with hlt | hge
  · have h1 : 2 ^ (n + 1) ∣ x + 2 ^ n := Nat.dvd_trans (Nat.pow_dvd_pow 2 (by omega)) hm
    have h2 : 2 ^ (n + 1) ∣ 2 ^ n := (Nat.dvd_add_right h).1 h1
    have h3 := Nat.le_of_dvd (Nat.two_pow_pos n) h2
    rw [Nat.pow_succ] at h3
    have := Nat.two_pow_pos n
    omega
  · exact hge
section
variable {α : Type} (H : α → α → α) (d : α)
def mg (l : List α) : Nat → α → α
  | 0, s => s
  | n + 1, s => H (l.getD (l.length - (n + 1)) d) (mg l n s)
def stepL (n : Nat) (l : List α) (s : α) : List α := l.take (l.length - n) ++ [mg H d l n s]
def lsL (ns : Nat → Nat) (M : Nat → α) : Nat → List α
  | 0 => []
  | j + 1 => stepL H d (ns j) (lsL ns M j) (M j)
theorem stepL_len (n : Nat) (l : List α) (s : α) : (stepL H d n l s).length = l.length - n + 1 := by
  unfold stepL
  rw [List.length_append, List.length_take, List.length_singleton]
  omega
variable {H d} {b : Nat} {ns : Nat → Nat} {M : Nat → α}
/-- 2^n - 1 leaves behind a multiple of 2^n leave n hashes more. -/
theorem grown (hns : ∀ j, IsNs b (b + j) (ns j)) : ∀ (n x : Nat), b ≤ x → 2 ^ n ∣ x → (lsL H d ns M (x + 2 ^ n - 1 - b)).length = (lsL H d ns M (x - b)).length + n
  | 0, x, hx, _ => by
    rw [show x + 2 ^ 0 - 1 - b = x - b by omega]
    rfl
  | n + 1, x, hx, hd => by
    have hp := Nat.two_pow_pos n
    have hd' : 2 ^ n ∣ x := Nat.dvd_trans (Nat.pow_dvd_pow 2 (by omega)) hd
    have h1 := grown hns n x hx hd'
    have h2 := grown hns n (x + 2 ^ n) (by omega) ((Nat.dvd_add_right hd').2 (Nat.dvd_refl _))
    have hn : ns (x + 2 ^ n - 1 - b) = n := by
      have he : b + (x + 2 ^ n - 1 - b) = x + 2 ^ n - 1 := by omega
      have hi := hns (x + 2 ^ n - 1 - b)
      rw [he] at hi
      refine isNs_uniq hi ⟨?_, by omega, fun m hm _ => ?_⟩
      · rw [show x + 2 ^ n - 1 + 1 = x + 2 ^ n by omega]
        exact (Nat.dvd_add_right hd').2 (Nat.dvd_refl _)
      · rw [show x + 2 ^ n - 1 + 1 = x + 2 ^ n by omega] at hm
        exact dvd_pow_top hd hm
    have h3 : (lsL H d ns M (x + 2 ^ n - b)).length = (lsL H d ns M (x - b)).length + 1 := by
      rw [show x + 2 ^ n - b = (x + 2 ^ n - 1 - b) + 1 by omega, lsL, stepL_len, hn, h1]
      omega
    rw [Nat.pow_succ, show x + 2 ^ n * 2 - 1 - b = x + 2 ^ n + 2 ^ n - 1 - b by omega, h2, h3]
    omega
theorem ns_le (hns : ∀ j, IsNs b (b + j) (ns j)) (j : Nat) : ns j ≤ (lsL H d ns M j).length := by
  obtain ⟨h1, h2, _⟩ := hns j
  have hp := Nat.two_pow_pos (ns j)
  have hd : 2 ^ ns j ∣ b + j + 1 - 2 ^ ns j := Nat.dvd_sub h1 (Nat.dvd_refl _)
  have := grown (H := H) (d := d) (M := M) hns (ns j) (b + j + 1 - 2 ^ ns j) (by omega) hd
  rw [show b + j + 1 - 2 ^ ns j + 2 ^ ns j - 1 - b = j by omega] at this
  omega
theorem lsL_len_le (j : Nat) : (lsL H d ns M j).length ≤ j := by
  induction j with
  | zero => simp [lsL]
  | succ j ih =>
    rw [lsL, stepL_len]
    omega
theorem lsL_len_eq {M' : Nat → α} : ∀ j, (lsL H d ns M j).length = (lsL H d ns M' j).length
  | 0 => rfl
  | j + 1 => by
    rw [lsL, lsL, stepL_len, stepL_len, lsL_len_eq (M' := M') j]
theorem mg_inj {P : α → Prop} (hi : ∀ x y x' y', P x → P x' → H x y = H x' y' → x = x' ∧ y = y') {l l' : List α} (hl : l.length = l'.length) (hP : ∀ x ∈ l, P x) (hP' : ∀ x ∈ l', P x) : ∀ (n : Nat) (s s' : α), n ≤ l.length → mg H d l n s = mg H d l' n s' → s = s' ∧ ∀ i, i < n → l.getD (l.length - (i + 1)) d = l'.getD (l.length - (i + 1)) d
  | 0, s, s', _, h => ⟨h, fun i hi => by omega⟩
  | n + 1, s, s', hn, h => by
    rw [mg, mg] at h
    have hm : ∀ (l : List α), (∀ x ∈ l, P x) → n + 1 ≤ l.length → P (l.getD (l.length - (n + 1)) d) := fun l hp hn => by
      rw [List.getD_eq_getElem?_getD, List.getElem?_eq_getElem (by omega), Option.getD_some]
      exact hp _ (List.getElem_mem _)
    obtain ⟨e1, e2⟩ := hi _ _ _ _ (hm l hP hn) (hm l' hP' (by omega)) h
    obtain ⟨e3, e4⟩ := mg_inj hi hl hP hP' n s s' (by omega) e2
    refine ⟨e3, fun i hi => ?_⟩
    by_cases he : i = n
    · subst he
      rw [e1, hl]
    · exact e4 i (by omega)
theorem stepL_inj {P : α → Prop} (hi : ∀ x y x' y', P x → P x' → H x y = H x' y' → x = x' ∧ y = y') {l l' : List α} (hl : l.length = l'.length) (hP : ∀ x ∈ l, P x) (hP' : ∀ x ∈ l', P x) {n : Nat} (hn : n ≤ l.length) {s s' : α} (h : stepL H d n l s = stepL H d n l' s') : l = l' ∧ s = s' := by
  unfold stepL at h
  have h1 := List.append_inj h (by rw [List.length_take, List.length_take]; omega)
  obtain ⟨e1, e2⟩ := h1
  injection e2 with e2 _
  obtain ⟨e3, e4⟩ := mg_inj hi hl hP hP' n s s' hn e2
  refine ⟨List.ext_getElem hl fun i h1 h2 => ?_, e3⟩
  rcases Nat.lt_or_ge i (l.length - n) with hlt | hge
  · have := congrArg (fun t => t[i]?) e1
    simp only [List.getElem?_take] at this
    rw [if_pos hlt, if_pos (by omega), List.getElem?_eq_getElem h1, List.getElem?_eq_getElem h2] at this
    exact Option.some.inj this
  · have := e4 (l.length - (i + 1)) (by omega)
    rw [show l.length - (l.length - (i + 1) + 1) = i by omega, List.getD_eq_getElem?_getD, List.getD_eq_getElem?_getD, List.getElem?_eq_getElem h1, List.getElem?_eq_getElem h2] at this
    exact this
theorem lsL_inj {P : α → Prop} (hi : ∀ x y x' y', P x → P x' → H x y = H x' y' → x = x' ∧ y = y') (hns : ∀ j, IsNs b (b + j) (ns j)) {M' : Nat → α} : ∀ (j : Nat), (∀ i, i ≤ j → ∀ x ∈ lsL H d ns M i, P x) → (∀ i, i ≤ j → ∀ x ∈ lsL H d ns M' i, P x) → lsL H d ns M j = lsL H d ns M' j → ∀ i, i < j → M i = M' i
  | 0, _, _, _, i, hi => by omega
  | j + 1, hP, hP', h, i, hij => by
    rw [lsL, lsL] at h
    obtain ⟨e1, e2⟩ := stepL_inj hi (lsL_len_eq j) (hP j (by omega)) (hP' j (by omega)) (ns_le hns j) h
    by_cases he : i = j
    · subst he
      exact e2
    · exact lsL_inj hi hns j (fun i h => hP i (by omega)) (fun i h => hP' i (by omega)) e1 i (by omega)
/-- All lengths together. -/
def tot (len : α → Nat) : List α → Nat
  | [] => 0
  | x :: l => len x + tot len l
theorem tot_append (len : α → Nat) : ∀ (l m : List α), tot len (l ++ m) = tot len l + tot len m
  | [], m => by simp [tot]
  | x :: l, m => by rw [List.cons_append, tot, tot, tot_append len l m]; omega
theorem tot_mem (len : α → Nat) : ∀ {l : List α} {x : α}, x ∈ l → len x ≤ tot len l
  | y :: l, x, h => by
    rw [tot]
    rcases List.mem_cons.1 h with rfl | h
    · omega
    · have := tot_mem len h
      omega
theorem mg_len {len : α → Nat} (hH : ∀ x y, len (H x y) ≤ len x + len y + 9) (l : List α) (s : α) : ∀ n, n ≤ l.length → len (mg H d l n s) ≤ tot len (l.drop (l.length - n)) + len s + 9 * n
  | 0, _ => by
    rw [mg]
    omega
  | n + 1, hn => by
    have h1 := mg_len hH l s n (by omega)
    have h2 := hH (l.getD (l.length - (n + 1)) d) (mg H d l n s)
    rw [mg]
    have e : l.drop (l.length - (n + 1)) = l.getD (l.length - (n + 1)) d :: l.drop (l.length - n) := by
      rw [List.drop_eq_getElem_cons (by omega), List.getD_eq_getElem?_getD, List.getElem?_eq_getElem (by omega), Option.getD_some, show l.length - (n + 1) + 1 = l.length - n by omega]
    rw [e, tot]
    omega
theorem stepL_tot {len : α → Nat} (hH : ∀ x y, len (H x y) ≤ len x + len y + 9) (l : List α) (s : α) (n : Nat) (hn : n ≤ l.length) : tot len (stepL H d n l s) ≤ tot len l + len s + 9 * n := by
  have h1 := mg_len (d := d) hH l s n hn
  have h2 := tot_append len (l.take (l.length - n)) (l.drop (l.length - n))
  rw [List.take_append_drop] at h2
  unfold stepL
  rw [tot_append, tot, tot]
  omega
theorem lsL_tot {len : α → Nat} (hH : ∀ x y, len (H x y) ≤ len x + len y + 9) (hns : ∀ j, IsNs b (b + j) (ns j)) (C : Nat) (j : Nat) (hM : ∀ i, i < j → len (M i) ≤ C) : tot len (lsL H d ns M j) ≤ j * (C + 9 * j) := by
  induction j with
  | zero => simp [lsL, tot]
  | succ j ih =>
    have h1 := ih (fun i hi => hM i (by omega))
    have h2 := stepL_tot (d := d) hH (lsL H d ns M j) (M j) (ns j) (ns_le hns j)
    have h3 := hM j (by omega)
    have h4 := ns_le (H := H) (d := d) (M := M) hns j
    have h5 := lsL_len_le (H := H) (d := d) (ns := ns) (M := M) j
    rw [lsL]
    have e : (j + 1) * (C + 9 * (j + 1)) = j * (C + 9 * j) + 9 * j + C + 9 * j + 9 := by
      have h6 : j * (C + 9 * (j + 1)) = j * (C + 9 * j) + j * 9 := by
        rw [← Nat.mul_add]
        congr 1
      rw [Nat.succ_mul, h6]
      omega
    rw [e]
    omega
end
section
variable {α : Type} {H : α → α → α} {d : α} {b : Nat} {ns : Nat → Nat} {M : Nat → α} {pc : Nat → Nat}
theorem ns_at (hns : ∀ j, IsNs b (b + j) (ns j)) {x n : Nat} (hx : b + 2 ^ n ≤ x) (hd : 2 ^ n ∣ x) (hm : ∀ m, 2 ^ m ∣ x → b + 2 ^ m ≤ x → m ≤ n) : ns (x - 1 - b) = n := by
  have hp := Nat.two_pow_pos n
  have he : b + (x - 1 - b) = x - 1 := by omega
  have hi := hns (x - 1 - b)
  rw [he] at hi
  have hx1 : x - 1 + 1 = x := by omega
  refine isNs_uniq hi ⟨?_, ?_, ?_⟩
  · rw [hx1]; exact hd
  · omega
  · rw [hx1]; exact hm
theorem len_next (hns : ∀ j, IsNs b (b + j) (ns j)) {x n : Nat} (hx : b ≤ x) (hd : 2 ^ n ∣ x) (hm : ∀ m, 2 ^ m ∣ x + 2 ^ n → b + 2 ^ m ≤ x + 2 ^ n → m ≤ n) : (lsL H d ns M (x + 2 ^ n - b)).length = (lsL H d ns M (x - b)).length + 1 := by
  have hp := Nat.two_pow_pos n
  have h1 := grown (H := H) (d := d) (M := M) hns n x hx hd
  have h2 := ns_at hns (x := x + 2 ^ n) (n := n) (by omega) ((Nat.dvd_add_right hd).2 (Nat.dvd_refl _)) hm
  rw [show x + 2 ^ n - b = (x + 2 ^ n - 1 - b) + 1 by omega, lsL, stepL_len, h2, h1]
  omega
theorem len_right (p0 : pc 0 = 0) (hpc : ∀ n r, n < 64 → r < 2 ^ n → pc (2 ^ n + r) = 1 + pc r) (hns : ∀ j, IsNs b (b + j) (ns j)) : ∀ (n x y : Nat), n ≤ 64 → b ≤ x → 2 ^ n ∣ x → y < 2 ^ n → (lsL H d ns M (x + y - b)).length = (lsL H d ns M (x - b)).length + pc y
  | 0, x, y, _, _, _, hy => by
    obtain rfl : y = 0 := by omega
    rw [p0]
    rfl
  | n + 1, x, y, hn, hb, hd, hy => by
    have hd' : 2 ^ n ∣ x := Nat.dvd_trans (Nat.pow_dvd_pow 2 (by omega)) hd
    rcases Nat.lt_or_ge y (2 ^ n) with hlt | hge
    · exact len_right p0 hpc hns n x y (by omega) hb hd' hlt
    · rw [Nat.pow_succ] at hy
      have h1 := len_right p0 hpc hns n (x + 2 ^ n) (y - 2 ^ n) (by omega) (by omega) ((Nat.dvd_add_right hd').2 (Nat.dvd_refl _)) (by omega)
      have h2 := len_next (H := H) (d := d) (M := M) hns hb hd' (fun m hm _ => dvd_pow_top hd hm)
      have h3 := hpc n (y - 2 ^ n) (by omega) (by omega)
      rw [show 2 ^ n + (y - 2 ^ n) = y by omega] at h3
      rw [show x + y - b = x + 2 ^ n + (y - 2 ^ n) - b by omega, h1, h2, h3]
      omega
theorem len_left (p0 : pc 0 = 0) (hpc : ∀ n r, n < 64 → r < 2 ^ n → pc (2 ^ n + r) = 1 + pc r) (hns : ∀ j, IsNs b (b + j) (ns j)) : ∀ (n c : Nat), n ≤ 64 → b ≤ c → 2 ^ n ∣ c → c - b < 2 ^ n → (lsL H d ns M (c - b)).length = pc (c - b)
  | 0, c, _, _, _, hy => by
    rw [show c - b = 0 by omega, p0]
    rfl
  | n + 1, c, hn, hb, hd, hy => by
    have hd' : 2 ^ n ∣ c := Nat.dvd_trans (Nat.pow_dvd_pow 2 (by omega)) hd
    rcases Nat.lt_or_ge (c - b) (2 ^ n) with hlt | hge
    · exact len_left p0 hpc hns n c (by omega) hb hd' hlt
    · have hp := Nat.two_pow_pos n
      have hy2 := hy
      rw [Nat.pow_succ] at hy
      have hd2 : 2 ^ n ∣ c - 2 ^ n := Nat.dvd_sub hd' (Nat.dvd_refl _)
      have h1 := len_left p0 hpc hns n (c - 2 ^ n) (by omega) (by omega) hd2 (by omega)
      have h2 := len_next (H := H) (d := d) (M := M) hns (x := c - 2 ^ n) (by omega) hd2 (fun m hm hr => by
        rw [show c - 2 ^ n + 2 ^ n = c by omega] at hr
        rcases Nat.lt_or_ge n m with h | h
        · have := Nat.pow_le_pow_right (show 0 < 2 by omega) (show n + 1 ≤ m from h)
          omega
        · exact h)
      have h3 := hpc n (c - 2 ^ n - b) (by omega) (by omega)
      rw [show 2 ^ n + (c - 2 ^ n - b) = c - b by omega] at h3
      rw [show c - 2 ^ n + 2 ^ n - b = c - b by omega] at h2
      rw [h2, h1, h3]
      omega
end
theorem hi_same (x y j : Nat) : x / 2 ^ j = y / 2 ^ j ↔ x ^^^ y < 2 ^ j := by
  have e : (x ^^^ y) / 2 ^ j = (x / 2 ^ j) ^^^ (y / 2 ^ j) := Nat.xor_div_two_pow
  constructor
  · intro h
    rw [h, Nat.xor_self] at e
    exact (Nat.div_eq_zero_iff_lt (Nat.two_pow_pos j)).1 e
  · intro h
    rw [Nat.div_eq_of_lt h] at e
    have : (x / 2 ^ j ^^^ y / 2 ^ j) ^^^ y / 2 ^ j = 0 ^^^ y / 2 ^ j := by rw [← e]
    rwa [Nat.xor_assoc, Nat.xor_self, Nat.xor_zero, Nat.zero_xor] at this
theorem odd_pow {t m n : Nat} (h : 2 ^ n ∣ 2 ^ t * (2 * m + 1)) : n ≤ t := by
  rcases Nat.lt_or_ge t n with hlt | hge
  · obtain ⟨c, hc⟩ := Nat.dvd_trans (Nat.pow_dvd_pow 2 (show t + 1 ≤ n by omega)) h
    rw [Nat.pow_succ, Nat.mul_assoc] at hc
    have := Nat.eq_of_mul_eq_mul_left (Nat.two_pow_pos t) hc
    omega
  · exact hge
theorem even_ns {b e : Nat} (hbe : b ≤ e) (he : e % 2 = 0) : IsNs b e 0 := by
  refine ⟨by simp, by omega, fun m hm _ => ?_⟩
  rcases Nat.eq_zero_or_pos m with rfl | hp
  · omega
  · have h2 : 2 ∣ e + 1 := Nat.dvd_trans (show 2 ∣ 2 ^ m by exact ⟨2 ^ (m - 1), by rw [← Nat.pow_succ']; congr 1; omega⟩) hm
    omega
theorem even_len {e t m : Nat} (ht : 1 ≤ t) (h : e = 2 ^ t * (2 * m + 1)) : (e - 1) ^^^ (e + 1) < 2 ^ (t + 1) := by
  rw [← hi_same]
  have hp : 2 ^ t = 2 * 2 ^ (t - 1) := by rw [← Nat.pow_succ']; congr 1; omega
  have hq := Nat.two_pow_pos (t - 1)
  have e1 : e = 2 ^ (t + 1) * m + 2 ^ t := by
    rw [h, Nat.mul_add, Nat.pow_succ, Nat.mul_one, Nat.mul_assoc]
  have e2 : 2 ^ (t + 1) = 2 * 2 ^ t := by rw [Nat.pow_succ']
  rw [show e - 1 = 2 ^ (t + 1) * m + (2 ^ t - 1) by omega, show e + 1 = 2 ^ (t + 1) * m + (2 ^ t + 1) by omega, Nat.mul_add_div (Nat.two_pow_pos _), Nat.mul_add_div (Nat.two_pow_pos _), Nat.div_eq_of_lt (by omega), Nat.div_eq_of_lt (by omega)]
theorem odd_len {e t m : Nat} (ht : 1 ≤ t) (h : e + 1 = 2 ^ t * (2 * m + 1)) : (e - 1) ^^^ (e + 1) < 2 ^ (t + 1) ∧ 2 ^ t ≤ (e - 1) ^^^ (e + 1) := by
  have hp : 2 ^ t = 2 * 2 ^ (t - 1) := by rw [← Nat.pow_succ']; congr 1; omega
  have hq := Nat.two_pow_pos (t - 1)
  have e1 : e + 1 = 2 ^ (t + 1) * m + 2 ^ t := by
    rw [h, Nat.mul_add, Nat.pow_succ, Nat.mul_one, Nat.mul_assoc]
  have e2 : 2 ^ (t + 1) = 2 * 2 ^ t := by rw [Nat.pow_succ']
  have e3 : 2 ^ (t + 1) * m = 2 ^ t * (2 * m) := by rw [Nat.pow_succ, Nat.mul_assoc]
  constructor
  · rw [← hi_same, show e - 1 = 2 ^ (t + 1) * m + (2 ^ t - 2) by omega, e1, Nat.mul_add_div (Nat.two_pow_pos _), Nat.mul_add_div (Nat.two_pow_pos _), Nat.div_eq_of_lt (by omega), Nat.div_eq_of_lt (by omega)]
  · rcases Nat.lt_or_ge ((e - 1) ^^^ (e + 1)) (2 ^ t) with hlt | hge
    · rw [← hi_same, show e - 1 = 2 ^ t * (2 * m) + (2 ^ t - 2) by omega, h, Nat.mul_add_div (Nat.two_pow_pos _), Nat.mul_div_cancel_left _ (Nat.two_pow_pos _), Nat.div_eq_of_lt (by omega)] at hlt
      omega
    · exact hge
theorem room_iff {b e n : Nat} (hb : 1 ≤ b) (hd : 2 ^ n ∣ e + 1) (hbe : b ≤ e) : b + 2 ^ n ≤ e + 1 ↔ 2 ^ n ≤ e ^^^ (b - 1) := by
  obtain ⟨q, hq⟩ := hd
  have hp := Nat.two_pow_pos n
  have hq1 : 1 ≤ q := by
    rcases Nat.eq_zero_or_pos q with rfl | h
    · omega
    · exact h
  have hqs : 2 ^ n * q = 2 ^ n * (q - 1) + 2 ^ n := by
    rw [← Nat.mul_succ]
    congr 1
    omega
  have he : e / 2 ^ n = q - 1 := by
    rw [show e = 2 ^ n * (q - 1) + (2 ^ n - 1) by omega, Nat.mul_add_div hp, Nat.div_eq_of_lt (by omega), Nat.add_zero]
  have hle : (b - 1) / 2 ^ n ≤ q - 1 := by
    rw [← he]
    exact Nat.div_le_div_right (by omega)
  have hiff : (b - 1) / 2 ^ n < q - 1 ↔ b - 1 < (q - 1) * 2 ^ n := Nat.div_lt_iff_lt_mul hp
  rw [Nat.mul_comm] at hiff
  have hs := hi_same e (b - 1) n
  rw [he] at hs
  constructor
  · intro h
    rcases Nat.lt_or_ge (e ^^^ (b - 1)) (2 ^ n) with hlt | hge
    · have := hs.2 hlt
      have := hiff.2 (by omega)
      omega
    · exact hge
  · intro h
    have h1 : ¬ q - 1 = (b - 1) / 2 ^ n := fun hh => by
      have := hs.1 hh
      omega
    have := hiff.1 (by omega)
    omega
theorem odd_ns {b e t m h : Nat} (hb : 1 ≤ b) (hbe : b ≤ e) (he : e + 1 = 2 ^ t * (2 * m + 1)) (h1 : 2 ^ h ≤ e ^^^ (b - 1)) (h2 : e ^^^ (b - 1) < 2 ^ (h + 1)) : IsNs b e (min t h) := by
  have hd : 2 ^ min t h ∣ e + 1 := by
    rw [he]
    exact Nat.dvd_trans (Nat.pow_dvd_pow 2 (Nat.min_le_left _ _)) ⟨_, rfl⟩
  refine ⟨hd, (room_iff hb hd hbe).2 (Nat.le_trans (Nat.pow_le_pow_right (by omega) (Nat.min_le_right _ _)) h1), fun n hn hr => ?_⟩
  have g1 : n ≤ t := odd_pow (he ▸ hn)
  have g2 := (room_iff hb hn hbe).1 hr
  have g3 : n < h + 1 := (Nat.pow_lt_pow_iff_right (by omega)).1 (Nat.lt_of_le_of_lt g2 h2)
  omega
theorem odd_ns0 {e t m : Nat} (he : e + 1 = 2 ^ t * (2 * m + 1)) : IsNs 0 e t := by
  refine ⟨⟨_, he⟩, ?_, fun n hn _ => odd_pow (he ▸ hn)⟩
  rw [he, Nat.mul_add]
  omega
theorem ones_below {e n i : Nat} (hd : 2 ^ n ∣ e + 1) (hi : i < n) : e / 2 ^ i % 2 = 1 := by
  obtain ⟨q, hq⟩ := Nat.dvd_trans (Nat.pow_dvd_pow 2 (show i + 1 ≤ n by omega)) hd
  have hp := Nat.two_pow_pos i
  have hq1 : 1 ≤ q := by
    rcases Nat.eq_zero_or_pos q with rfl | h
    · omega
    · exact h
  have hqs : 2 ^ (i + 1) * q = 2 ^ i * (2 * (q - 1)) + 2 * 2 ^ i := by
    have : q = q - 1 + 1 := by omega
    rw [this, Nat.mul_add, Nat.pow_succ, Nat.mul_assoc, Nat.mul_one, Nat.mul_comm 2 (2 ^ i)]
    simp
  rw [show e = 2 ^ i * (2 * (q - 1) + 1) + (2 ^ i - 1) by rw [Nat.mul_add]; omega, Nat.mul_add_div hp, Nat.div_eq_of_lt (by omega)]
  omega
theorem low_all {e n : Nat} (hd : 2 ^ n ∣ e + 1) : e % 2 ^ n = 2 ^ n - 1 := by
  obtain ⟨q, hq⟩ := hd
  have hp := Nat.two_pow_pos n
  have hq1 : 1 ≤ q := by
    rcases Nat.eq_zero_or_pos q with rfl | h
    · omega
    · exact h
  have hqs : 2 ^ n * q = 2 ^ n * (q - 1) + 2 ^ n := by
    rw [← Nat.mul_succ]
    congr 1
    omega
  rw [show e = 2 ^ n * (q - 1) + (2 ^ n - 1) by omega, Nat.mul_add_mod, Nat.mod_eq_of_lt (by omega)]
theorem pow_odd : ∀ (k x : Nat), x ≤ k → 0 < x → ∃ t m, x = 2 ^ t * (2 * m + 1)
  | 0, x, h, h0 => by omega
  | k + 1, x, h, h0 => by
    by_cases hx : x % 2 = 1
    · exact ⟨0, x / 2, by omega⟩
    · obtain ⟨t, m, e⟩ := pow_odd k (x / 2) (by omega) (by omega)
      exact ⟨t + 1, m, by rw [Nat.pow_succ', Nat.mul_assoc, ← e]; omega⟩
theorem xor_ne {x y : Nat} (h : x ≠ y) : x ^^^ y ≠ 0 := fun h0 => h (by
  have : (x ^^^ y) ^^^ y = 0 ^^^ y := by rw [h0]
  rwa [Nat.xor_assoc, Nat.xor_self, Nat.xor_zero, Nat.zero_xor] at this)
theorem ns_ex {b e : Nat} (hbe : b ≤ e) : ∃ n, IsNs b e n := by
  obtain ⟨t, m, he⟩ := pow_odd (e + 1) (e + 1) (Nat.le_refl _) (by omega)
  by_cases hb : b = 0
  · subst hb
    exact ⟨t, odd_ns0 he⟩
  · have hz := xor_ne (show e ≠ b - 1 by omega)
    exact ⟨_, odd_ns (by omega) hbe he (Nat.log2_self_le hz) Nat.lt_log2_self⟩
theorem len_uniq {z p q : Nat} (h1 : 1 ≤ p) (h2 : 2 ^ (p - 1) ≤ z) (h3 : z < 2 ^ p) (h4 : 2 ^ q ≤ z) (h5 : z < 2 ^ (q + 1)) : p = q + 1 := by
  have a := (Nat.pow_lt_pow_iff_right (show 1 < 2 by omega)).1 (Nat.lt_of_le_of_lt h2 h5)
  have b := (Nat.pow_lt_pow_iff_right (show 1 < 2 by omega)).1 (Nat.lt_of_le_of_lt h4 h3)
  omega
/-- The way of the merges: from lo to hi. -/
theorem path_of {b e lo h1 h2 : Nat} (hbe : b ≤ e) (he : e + 1 < 2 ^ 64) (hlo : e ≠ 0 → ∃ m, e = 2 ^ lo * (2 * m + 1)) (hlo0 : e = 0 → lo = 64)
    (hh1 : b ≠ 0 → 1 ≤ h1 ∧ 2 ^ (h1 - 1) ≤ e ^^^ (b - 1) ∧ e ^^^ (b - 1) < 2 ^ h1) (hh10 : b = 0 → h1 = 64) (hh2 : e ≠ 0 → 1 ≤ h2 ∧ 2 ^ (h2 - 1) ≤ (e - 1) ^^^ (e + 1) ∧ (e - 1) ^^^ (e + 1) < 2 ^ h2) :
    ∃ n, IsNs b e n ∧ (n ≠ 0 → lo = 0) ∧ ((min h1 h2 - 1 < lo ∧ n = 0) ∨ lo + n = min h1 h2 - 1) := by
  by_cases e0 : e = 0
  · have hb0 : b = 0 := by omega
    exact ⟨0, even_ns hbe (by omega), fun h => absurd rfl h, .inl ⟨by rw [hlo0 e0, hh10 hb0]; omega, rfl⟩⟩
  obtain ⟨m, hm⟩ := hlo e0
  obtain ⟨g1, g2, g3⟩ := hh2 e0
  by_cases hev : e % 2 = 0
  · have ht : 1 ≤ lo := by
      rcases Nat.eq_zero_or_pos lo with h | h
      · rw [h] at hm
        omega
      · exact h
    have hl := even_len ht hm
    have h3 : h2 - 1 < lo + 1 := (Nat.pow_lt_pow_iff_right (show 1 < 2 by omega)).1 (Nat.lt_of_le_of_lt g2 hl)
    refine ⟨0, even_ns hbe hev, fun h => absurd rfl h, ?_⟩
    rcases Nat.lt_or_ge (min h1 h2 - 1) lo with h | h
    · exact .inl ⟨h, rfl⟩
    · exact .inr (by omega)
  · have hl0 : lo = 0 := by
      rcases Nat.eq_zero_or_pos lo with h | h
      · exact h
      · exfalso
        rw [show lo = lo - 1 + 1 by omega, Nat.pow_succ', Nat.mul_assoc] at hm
        omega
    obtain ⟨t, q, hq⟩ := pow_odd (e + 1) (e + 1) (Nat.le_refl _) (by omega)
    have ht : 1 ≤ t := by
      rcases Nat.eq_zero_or_pos t with h | h
      · rw [h] at hq
        omega
      · exact h
    obtain ⟨o1, o2⟩ := odd_len ht hq
    have e2 := len_uniq g1 g2 g3 o2 o1
    by_cases hb0 : b = 0
    · have ht64 : t < 64 := by
        have h6 : 2 ^ t ≤ e + 1 := by
          rw [hq, Nat.mul_add, Nat.mul_one]
          omega
        exact (Nat.pow_lt_pow_iff_right (show 1 < 2 by omega)).1 (Nat.lt_of_le_of_lt h6 he)
      subst hb0
      refine ⟨t, odd_ns0 hq, fun _ => hl0, .inr ?_⟩
      rw [hh10 rfl, hl0]
      omega
    · obtain ⟨k1, k2, k3⟩ := hh1 hb0
      refine ⟨_, odd_ns (by omega) hbe hq k2 (by rw [show h1 - 1 + 1 = h1 by omega]; exact k3), fun _ => hl0, .inr ?_⟩
      rw [hl0]
      omega
end Go.Proofs.YtfhcpniibiobgaaDoor.Core
