/- The hashes of merged ranges: one value for each node: plain. -/
import Derived.Test.YtfhcpniibiobgaaDoorJe
import Derived.Test.YtfhcpniibiobgaaDoorMl
import Derived.Test.YtfhcpniibiobgaaDoorJm
namespace Go.Proofs.YtfhcpniibiobgaaDoor.Pure
open Go.RowKit Go.Proofs.YtfhcpniibiobgaaDoorW.PrintWords Go.Proofs.YtfhcpniibiobgaaDoorW.PrintMore Go.Proofs.YtfhcpniibiobgaaDoorW.PrintLast
open Go.Proofs.YtfhcpniibiobgaaDoor.M (IsN isN_same isN_uniq Join In pc lefts rights lefts_at rights_at lefts_len rights_len chain_mem chain_facts Dis)
open Core (tot tot_append)

/-- Bytes and nine more for each. -/
abbrev len9 (x : List Int) : Nat := x.length + 9
theorem ones_none {x : Nat} (hx : x < 18446744073709551616) : Qf.bits_OnesCount64.f (Go.bits .and .u64 (x : Int) 0) = some 0 := by
  rw [show (0 : Int) = ((0 : Nat) : Int) from rfl, bits_and_u64_nat x 0 hx (by omega), Nat.and_zero, onesCount_of 0 (by omega), M.pc_zero]
theorem ones_gen {x n : Nat} (hx : x < 18446744073709551616) (hn : n ≤ 63) : Qf.bits_OnesCount64.f (Go.bits .and .u64 (x : Int) (IntKind.u64.wrap (IntKind.u64.wrap ((2 : Int) ^ n) - 1))) = some ((pc n x : Nat) : Int) := by
  have hp := Nat.two_pow_pos n
  have hlt : 2 ^ n < 18446744073709551616 := Nat.lt_of_le_of_lt (Nat.pow_le_pow_right (by omega) hn) (by omega)
  have e1 : IntKind.u64.wrap ((2 : Int) ^ n) = ((2 ^ n : Nat) : Int) := by
    rw [show ((2 : Int) ^ n) = ((2 ^ n : Nat) : Int) by push_cast; rfl]
    exact wu64 (by omega) (by omega)
  have e2 : IntKind.u64.wrap (((2 ^ n : Nat) : Int) - 1) = ((2 ^ n - 1 : Nat) : Int) := by
    rw [wu64 (by omega) (by omega)]
    omega
  have hm := Nat.mod_lt x hp
  have h64 := M.pc_add n (64 - n) (x % 2 ^ n)
  rw [Nat.add_sub_cancel' (by omega), Nat.div_eq_of_lt hm, M.pc_zero, Nat.add_zero, M.pc_mod] at h64
  rw [e1, e2, bits_and_u64_nat x (2 ^ n - 1) hx (by omega), Nat.and_two_pow_sub_one_eq_mod, onesCount_of _ (by omega), h64]
section
variable {a0 a1 a2 a3 a4 a5 : Int}
theorem lefts_tot (V : Nat × Nat → List Int) (q low : Nat) : ∀ d j, tot len9 ((lefts q low j).map V) ≤ tot len9 ((lefts q low (j + d)).map V)
  | 0, j => Nat.le_refl _
  | d + 1, j => by
    refine Nat.le_trans (lefts_tot V q low d j) ?_
    rw [← Nat.add_assoc, lefts]
    split
    · rw [List.map_cons, tot]
      omega
    · exact Nat.le_refl _
theorem rights_tot (V : Nat × Nat → List Int) (q low : Nat) : ∀ d j, tot len9 ((rights q low j).map V) ≤ tot len9 ((rights q low (j + d)).map V)
  | 0, j => Nat.le_refl _
  | d + 1, j => by
    refine Nat.le_trans (rights_tot V q low d j) ?_
    rw [← Nat.add_assoc, rights]
    split
    · exact Nat.le_refl _
    · rw [List.map_append, tot_append]
      omega
theorem odd_facts {x : Nat} (h : x % 2 = 1) : 2 * (x / 2) = x - 1 ∧ x - 1 + 1 = x := by omega
/-- The seed on its way up: the hash of each node that it comes to. -/
theorem mr_up (V : Nat × Nat → List Int) {q low n : Nat} {X Y : List (Nat × Nat)} (hV : ∀ k, low ≤ k → k < low + n → V (k + 1, q / 2 ^ (k + 1)) = hcF a0 a2 a5 (V (k, 2 * (q / 2 ^ (k + 1)))) (V (k, 2 * (q / 2 ^ (k + 1)) + 1)))
    (hB : (V (low, q / 2 ^ low)).length + 9 + tot len9 ((lefts q low n).map V) + tot len9 ((rights q low n).map V) ≤ 10000000000000) : ∀ j, j ≤ n →
    Qf.mrO a0 a1 a2 a3 a4 a5 ((X ++ lefts q low n).map V) ((rights q low n ++ Y).map V) (q / 2 ^ low) j (V (low, q / 2 ^ low)) = some (V (low + j, q / 2 ^ (low + j))) ∧ (V (low + j, q / 2 ^ (low + j))).length + 9 ≤ (V (low, q / 2 ^ low)).length + 9 + tot len9 ((lefts q low j).map V) + tot len9 ((rights q low j).map V)
  | 0, _ => ⟨rfl, by
    show (V (low, q / 2 ^ low)).length + 9 ≤ _
    omega⟩
  | j + 1, hj => by
    obtain ⟨ih, il⟩ := mr_up V (X := X) (Y := Y) hV hB j (by omega)
    have hv := hV (low + j) (by omega) (by omega)
    have ex : q / 2 ^ low / 2 ^ j = q / 2 ^ (low + j) := by rw [Nat.div_div_eq_div_mul, ← Nat.pow_add]
    have eh : q / 2 ^ (low + j + 1) = q / 2 ^ (low + j) / 2 := M.up_half _ _
    have t1 := lefts_tot V q low (n - (j + 1)) (j + 1)
    have t2 := rights_tot V q low (n - (j + 1)) (j + 1)
    rw [show j + 1 + (n - (j + 1)) = n by omega] at t1 t2
    have l1 := lefts_len (q := q) (low := low) j
    have l2 := rights_len (q := q) (low := low) j
    rw [Qf.mrO, ih, Option.bind_some, ex]
    by_cases hb : q / 2 ^ (low + j) % 2 = 1
    · obtain ⟨A, hA⟩ := lefts_at n j (by omega) hb
      have eL : tot len9 ((lefts q low (j + 1)).map V) = (V (low + j, q / 2 ^ (low + j) - 1)).length + 9 + tot len9 ((lefts q low j).map V) := by
        rw [lefts, if_pos hb, List.map_cons, tot]
      have eR : tot len9 ((rights q low (j + 1)).map V) = tot len9 ((rights q low j).map V) := by
        rw [rights, if_pos hb]
      have t3 : (V (low + j, q / 2 ^ (low + j) - 1)).length + 9 + tot len9 ((lefts q low j).map V) ≤ tot len9 ((lefts q low n).map V) := by omega
      have hg : ((X ++ lefts q low n).map V).getD (((X ++ lefts q low n).map V).length - 1 - pc j (q / 2 ^ low)) [] = V (low + j, q / 2 ^ (low + j) - 1) := by
        rw [hA, ← List.append_assoc, List.map_append, List.map_cons, List.length_append, List.length_cons, List.length_map, List.length_map, l1, List.getD_eq_getElem?_getD, List.getElem?_append_right (by rw [List.length_map]; omega), List.length_map, show (X ++ A).length + (pc j (q / 2 ^ low) + 1) - 1 - pc j (q / 2 ^ low) - (X ++ A).length = 0 by omega]
        rfl
      rw [if_pos hb, hg, toyHC _ _ _ _ _ _ _ _ (by omega) (by omega), Option.bind_some]
      rw [eh, (odd_facts hb).1, (odd_facts hb).2] at hv
      have hl := hcF_len a0 a2 a5 (V (low + j, q / 2 ^ (low + j) - 1)) (V (low + j, q / 2 ^ (low + j)))
      rw [← hv] at hl
      rw [← hv, if_pos (by omega), show low + (j + 1) = low + j + 1 by omega, eh]
      exact ⟨rfl, by omega⟩
    · have hb0 : q / 2 ^ (low + j) % 2 = 0 := by omega
      obtain ⟨C, hC⟩ := rights_at n j (by omega) hb0
      have eL : tot len9 ((lefts q low (j + 1)).map V) = tot len9 ((lefts q low j).map V) := by
        rw [lefts, if_neg hb]
      have eR : tot len9 ((rights q low (j + 1)).map V) = tot len9 ((rights q low j).map V) + ((V (low + j, q / 2 ^ (low + j) + 1)).length + 9 + 0) := by
        rw [rights, if_neg hb, List.map_append, tot_append]
        rfl
      have hg : ((rights q low n ++ Y).map V).getD (j - pc j (q / 2 ^ low)) [] = V (low + j, q / 2 ^ (low + j) + 1) := by
        rw [hC, List.append_assoc, List.map_append, List.getD_eq_getElem?_getD, List.getElem?_append_right (by rw [List.length_map]; omega), List.length_map, show j - pc j (q / 2 ^ low) - (rights q low j).length = 0 by omega]
        rfl
      have t3 : tot len9 ((rights q low j).map V) + ((V (low + j, q / 2 ^ (low + j) + 1)).length + 9) ≤ tot len9 ((rights q low n).map V) := by omega
      rw [if_neg hb, hg, toyHC _ _ _ _ _ _ _ _ (by omega) (by omega), Option.bind_some]
      rw [eh, show 2 * (q / 2 ^ (low + j) / 2) = q / 2 ^ (low + j) by omega] at hv
      have hl := hcF_len a0 a2 a5 (V (low + j, q / 2 ^ (low + j))) (V (low + j, q / 2 ^ (low + j) + 1))
      rw [← hv] at hl
      rw [← hv, if_pos (by omega), show low + (j + 1) = low + j + 1 by omega, eh]
      exact ⟨rfl, by omega⟩
/-- Two ranges' hashes make the hashes of both. -/
theorem mgen_of (V : Nat × Nat → List Int) {p q r : Nat} (hpq : p ≤ q) (hqr : q ≤ r) (hr : r < 18446744073709551616) (hq0 : q = 0 → r ≠ 18446744073709551615) {W1 W2 W : List (Nat × Nat)} (h1 : IsN p q W1) (h2 : IsN q r W2) (hw : IsN p r W)
    (hV : ∀ k i, 2 ^ (k + 1) * i < q → q < 2 ^ (k + 1) * (i + 1) → V (k + 1, i) = hcF a0 a2 a5 (V (k, 2 * i)) (V (k, 2 * i + 1))) (hB : tot len9 (W1.map V) + tot len9 (W2.map V) ≤ 10000000000000) :
    Qf.MGen a0 a1 a2 a3 a4 a5 p q r (W1.map V) (W2.map V) (W.map V) ∧ tot len9 (W.map V) ≤ tot len9 (W1.map V) + tot len9 (W2.map V) := by
  by_cases he : q = r
  · subst he
    obtain rfl := isN_same h2
    obtain rfl := isN_uniq hw h1
    exact ⟨.inl ⟨rfl, rfl, rfl⟩, by omega⟩
  · obtain ⟨low, hgh, n, X, Y, s, t, hmp, hl64, hh63, hc, hj⟩ := merge_path hpq (by omega) hr hq0 h1 h2 hw
    have hq64 : q / 2 ^ low < 18446744073709551616 := Nat.lt_of_le_of_lt (Nat.div_le_self _ _) (by omega)
    have hdv : ((q : Int) / 2 ^ low) = ((q / 2 ^ low : Nat) : Int) := by push_cast; rfl
    have l1 := lefts_len (q := q) (low := low) n
    have l2 := rights_len (q := q) (low := low) n
    obtain ⟨w1, w2, w3, ht, h0, hsm⟩ := hj
    subst w1 w2 w3
    have b1 : tot len9 ((X ++ lefts q low n).map V) = tot len9 (X.map V) + tot len9 ((lefts q low n).map V) := by rw [List.map_append, tot_append]
    have b2 : tot len9 ((s :: (rights q low n ++ Y)).map V) = (V s).length + 9 + (tot len9 ((rights q low n).map V) + tot len9 (Y.map V)) := by
      rw [List.map_cons, tot, List.map_append, tot_append]
    have b3 : tot len9 ((X ++ t :: Y).map V) = tot len9 (X.map V) + ((V t).length + 9 + tot len9 (Y.map V)) := by
      rw [List.map_append, tot_append, List.map_cons, tot]
    have hup : Qf.mrO a0 a1 a2 a3 a4 a5 ((X ++ lefts q low n).map V) ((rights q low n ++ Y).map V) (q / 2 ^ low) n (V s) = some (V t) ∧ (V t).length + 9 ≤ (V s).length + 9 + tot len9 ((lefts q low n).map V) + tot len9 ((rights q low n).map V) := by
      rcases Nat.eq_zero_or_pos n with hn | hn
      · subst hn
        rw [h0 rfl]
        exact ⟨rfl, by omega⟩
      · obtain ⟨rfl, rfl⟩ := ht hn
        refine mr_up V (fun k k1 k2 => hV k _ (hsm hn (k + 1) (by omega)) (M.div_hi q (k + 1))) (by omega) n (Nat.le_refl _)
    refine ⟨.inr ⟨V s, (rights q low n ++ Y).map V, low, hgh, rfl, hmp, ?_⟩, by omega⟩
    rcases hc with ⟨c1, c2⟩ | c1
    · subst c2
      refine .inl ⟨c1, hl64, by rw [hdv]; exact ones_none hq64, ?_⟩
      rw [h0 rfl, show lefts q low 0 = [] from rfl, show rights q low 0 = [] from rfl, List.append_nil, List.nil_append, List.map_append, List.map_cons, List.append_assoc]
      rfl
    · refine .inr ⟨n, pc n (q / 2 ^ low), V t, c1, by omega, rfl, by rw [List.length_map, List.length_append, l1]; omega, by rw [List.length_map, List.length_append]; omega, by rw [hdv]; exact ones_gen hq64 (by omega), hup.1, ?_⟩
      have e1 : ((X ++ lefts q low n).map V).take (((X ++ lefts q low n).map V).length - pc n (q / 2 ^ low)) = X.map V := by
        rw [List.map_append, List.length_append, List.length_map, List.length_map, l1, Nat.add_sub_cancel]
        exact List.take_left' (List.length_map V)
      have e2 : ((rights q low n ++ Y).map V).drop (n - pc n (q / 2 ^ low)) = Y.map V := by
        rw [List.map_append]
        exact List.drop_left' (by rw [List.length_map]; omega)
      rw [e1, e2, List.map_append, List.map_cons, List.append_assoc]
      rfl
/-- A hash for each node: the one that is given, or that of its halves. -/
def Val (a0 a2 a5 : Int) (look : Nat × Nat → Option (List Int)) : Nat → Nat → List Int
  | 0, i => (look (0, i)).getD []
  | l + 1, i => (look (l + 1, i)).getD (hcF a0 a2 a5 (Val a0 a2 a5 look l (2 * i)) (Val a0 a2 a5 look l (2 * i + 1)))
theorem val_some {look : Nat × Nat → Option (List Int)} {x : Nat × Nat} {h : List Int} (hx : look x = some h) : Val a0 a2 a5 look x.1 x.2 = h := by
  obtain ⟨l, i⟩ := x
  cases l with
  | zero => rw [Val, hx]; rfl
  | succ l => rw [Val, hx]; rfl
theorem val_none {look : Nat × Nat → Option (List Int)} {l i : Nat} (hx : look (l + 1, i) = none) : Val a0 a2 a5 look (l + 1) i = hcF a0 a2 a5 (Val a0 a2 a5 look l (2 * i)) (Val a0 a2 a5 look l (2 * i + 1)) := by
  rw [Val, hx]
  rfl
theorem isN_nodup {b e : Nat} {W : List (Nat × Nat)} (h : IsN b e W) : W.Nodup := by
  have h1 := (chain_facts h.chain).1
  refine h1.imp fun {x y} hd he => ?_
  subst he
  have h2 := M.lo_hi x
  have h3 := Nat.two_pow_pos x.1
  rcases hd with hd | hd <;> omega
/-- The hashes in their row. -/
def at_ (W : List (Nat × Nat)) (l : List (List Int)) (x : Nat × Nat) : List Int := l.getD (W.idxOf x) []
theorem at_row {W : List (Nat × Nat)} {l : List (List Int)} (hn : W.Nodup) (hl : l.length = W.length) : W.map (at_ W l) = l := by
  refine List.ext_getElem (by rw [List.length_map, hl]) fun i h1 h2 => ?_
  rw [List.length_map] at h1
  rw [List.getElem_map, at_, hn.idxOf_getElem i h1, List.getD_eq_getElem?_getD, List.getElem?_eq_getElem h2]
  rfl
theorem in_of {b e : Nat} {W : List (Nat × Nat)} (h : IsN b e W) {x : Nat × Nat} (hx : x ∈ W) : b ≤ 2 ^ x.1 * x.2 ∧ 2 ^ x.1 * x.2 < 2 ^ x.1 * (x.2 + 1) ∧ 2 ^ x.1 * (x.2 + 1) ≤ e := by
  have h1 := chain_mem h.chain x hx
  have h2 := Nat.two_pow_pos x.1
  refine ⟨h1.1, by rw [Nat.mul_add]; omega, h1.2⟩
/-- One value for the nodes of three ranges that follow one another. -/
theorem val_three {p0 p1 p2 p3 : Nat} (_ : p0 ≤ p1) (h12 : p1 ≤ p2) (_ : p2 ≤ p3) {Wa Wb Wc : List (Nat × Nat)} (ha : IsN p0 p1 Wa) (hb : IsN p1 p2 Wb) (hc : IsN p2 p3 Wc) {la lb lc : List (List Int)} (na : la.length = Wa.length) (nb : lb.length = Wb.length) (nc : lc.length = Wc.length) :
    ∃ V : Nat × Nat → List Int, Wa.map V = la ∧ Wb.map V = lb ∧ Wc.map V = lc ∧ (∀ k i, 2 ^ (k + 1) * i < p1 → p1 < 2 ^ (k + 1) * (i + 1) → V (k + 1, i) = hcF a0 a2 a5 (V (k, 2 * i)) (V (k, 2 * i + 1))) ∧ (∀ k i, 2 ^ (k + 1) * i < p2 → p2 < 2 ^ (k + 1) * (i + 1) → V (k + 1, i) = hcF a0 a2 a5 (V (k, 2 * i)) (V (k, 2 * i + 1))) := by
  obtain ⟨look, hlook⟩ : ∃ look : Nat × Nat → Option (List Int), look = fun x => if x ∈ Wa then some (at_ Wa la x) else if x ∈ Wb then some (at_ Wb lb x) else if x ∈ Wc then some (at_ Wc lc x) else none := ⟨_, rfl⟩
  have ra : ∀ x ∈ Wa, look x = some (at_ Wa la x) := fun x hx => by rw [hlook]; exact if_pos hx
  have rb : ∀ x ∈ Wb, look x = some (at_ Wb lb x) := fun x hx => by
    rw [hlook]
    show (if x ∈ Wa then _ else _) = _
    rw [if_neg (fun h => by have := in_of ha h; have := in_of hb hx; omega), if_pos hx]
  have rc : ∀ x ∈ Wc, look x = some (at_ Wc lc x) := fun x hx => by
    rw [hlook]
    show (if x ∈ Wa then _ else _) = _
    rw [if_neg (fun h => by have := in_of ha h; have := in_of hc hx; omega), if_neg (fun h => by have := in_of hb h; have := in_of hc hx; omega), if_pos hx]
  have rn : ∀ x : Nat × Nat, x ∉ Wa → x ∉ Wb → x ∉ Wc → look x = none := fun x h1 h2 h3 => by
    rw [hlook]
    show (if x ∈ Wa then _ else _) = _
    rw [if_neg h1, if_neg h2, if_neg h3]
  have rows : ∀ {W : List (Nat × Nat)} {l : List (List Int)}, W.Nodup → l.length = W.length → (∀ x ∈ W, look x = some (at_ W l x)) → W.map (fun x => Val a0 a2 a5 look x.1 x.2) = l := fun {W l} hn hl h => by
    conv => rhs; rw [← at_row hn hl]
    exact List.map_congr_left fun x hx => val_some (h x hx)
  refine ⟨fun x => Val a0 a2 a5 look x.1 x.2, rows (isN_nodup ha) na ra, rows (isN_nodup hb) nb rb, rows (isN_nodup hc) nc rc, fun k i h1 h2 => ?_, fun k i h1 h2 => ?_⟩
  · exact val_none (rn _ (fun h => by have h3 : _ ∧ _ ∧ 2 ^ (k + 1) * (i + 1) ≤ p1 := in_of ha h; omega) (fun h => by have h3 : p1 ≤ 2 ^ (k + 1) * i ∧ _ := in_of hb h; omega) (fun h => by have h3 : p2 ≤ 2 ^ (k + 1) * i ∧ _ := in_of hc h; omega))
  · exact val_none (rn _ (fun h => by have h3 : _ ∧ _ ∧ 2 ^ (k + 1) * (i + 1) ≤ p1 := in_of ha h; omega) (fun h => by have h3 : _ ∧ _ ∧ 2 ^ (k + 1) * (i + 1) ≤ p2 := in_of hb h; omega) (fun h => by have h3 : p2 ≤ 2 ^ (k + 1) * i ∧ _ := in_of hc h; omega))
end
end Go.Proofs.YtfhcpniibiobgaaDoor.Pure
