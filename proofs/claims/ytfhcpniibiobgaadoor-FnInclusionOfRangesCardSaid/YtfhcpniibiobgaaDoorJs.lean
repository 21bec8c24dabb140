/- Several texts, joined. -/
import Derived.Test.YtfhcpniibiobgaaDoorJe
import Derived.Test.YtfhcpniibiobgaaDoorJl
import Derived.Test.YtfhcpniibiobgaaDoorJm
import Derived.Test.YtfhcpniibiobgaaDoorJp
import Derived.Test.YtfhcpniibiobgaaDoorJr
import Derived.Test.YtfhcpniibiobgaaDoorJo
import Derived.Test.YtfhcpniibiobgaaDoorJx
import Derived.Test.YtfhcpniibiobgaaDoorQfx
namespace Go.Proofs.YtfhcpniibiobgaaDoor.Pure
open Go.RowKit Go.Proofs.YtfhcpniibiobgaaDoorW.PrintWords Go.Proofs.YtfhcpniibiobgaaDoorW.PrintMore Go.Proofs.YtfhcpniibiobgaaDoorW.PrintLast
open Go.Proofs.YtfhcpniibiobgaaDoor.M (IsN isN_same isN_uniq Join In pc lefts rights lefts_at rights_at lefts_len rights_len chain_mem chain_facts Dis)
open Core (tot tot_append)
abbrev len9 (x : List Int) : Nat := x.length + 9
theorem ones_none {x : Nat} (hx : x < 18446744073709551616) : Qf.bits_OnesCount64.f (Go.bits .and .u64 (x : Int) 0) = some 0 := by
  rw [show (0 : Int) = ((0 : Nat) : Int) from rfl, bits_and_u64_nat x 0 hx (by omega), Nat.and_zero, onesCount_of 0 (by omega), M.pc_zero]
theorem ones_gen {x n : Nat} (hx : x < 18446744073709551616) (hn : n ≤ 63) : Qf.bits_OnesCount64.f (Go.bits .and .u64 (x : Int) (IntKind.u64.wrap (IntKind.u64.wrap ((2 : Int) ^ n) - 1))) = some ((pc n x : Nat) : Int) := by
  have hp := Nat.two_pow_pos n
  have hlt : 2 ^ n < 18446744073709551616 := Nat.lt_of_le_of_lt (Nat.pow_le_pow_right (by omega) hn) (by omega)
  have e1 : IntKind.u64.wrap ((2 : Int) ^ n) = ((2 ^ n : Nat) : Int) := by
    rw [show ((2 : Int) ^ n) = ((2 ^ n : Nat) : Int) by push_cast; rfl]
    exact wu64 (by omega) (by omega)
  have e2 : IntKind.u64.wrap (((2 ^ n : Nat) : Int) - 1) = ((2 ^ n - 1 : Nat) : Int) := by
    rw [wu64 (by omega) (by omega)]
    omega
  have hm := Nat.mod_lt x hp
  have h64 := M.pc_add n (64 - n) (x % 2 ^ n)
  rw [Nat.add_sub_cancel' (by omega), Nat.div_eq_of_lt hm, M.pc_zero, Nat.add_zero, M.pc_mod] at h64
  rw [e1, e2, bits_and_u64_nat x (2 ^ n - 1) hx (by omega), Nat.and_two_pow_sub_one_eq_mod, onesCount_of _ (by omega), h64]
section
variable {a0 a1 a2 a3 a4 a5 : Int}
theorem lefts_tot (V : Nat × Nat → List Int) (q low : Nat) : ∀ d j, tot len9 ((lefts q low j).map V) ≤ tot len9 ((lefts q low (j + d)).map V)
  | 0, j => Nat.le_refl _
  | d + 1, j => by
    refine Nat.le_trans (lefts_tot V q low d j) ?_
    rw [← Nat.add_assoc, lefts]
    split
    · rw [List.map_cons, tot]
      omega
    · exact Nat.le_refl _
theorem rights_tot (V : Nat × Nat → List Int) (q low : Nat) : ∀ d j, tot len9 ((rights q low j).map V) ≤ tot len9 ((rights q low (j + d)).map V)
  | 0, j => Nat.le_refl _
  | d + 1, j => by
    refine Nat.le_trans (rights_tot V q low d j) ?_
    rw [← Nat.add_assoc, rights]
    split
    · exact Nat.le_refl _
    · rw [List.map_append, tot_append]
      omega
theorem odd_facts {x : Nat} (h : x % 2 = 1) : 2 * (x / 2) = x - 1 ∧ x - 1 + 1 = x := by omega
theorem mr_up (V : Nat × Nat → List Int) {q low n : Nat} {X Y : List (Nat × Nat)} (hV : ∀ k, low ≤ k → k < low + n → V (k + 1, q / 2 ^ (k + 1)) = hcF a0 a2 a5 (V (k, 2 * (q / 2 ^ (k + 1)))) (V (k, 2 * (q / 2 ^ (k + 1)) + 1)))
    (hB : (V (low, q / 2 ^ low)).length + 9 + tot len9 ((lefts q low n).map V) + tot len9 ((rights q low n).map V) ≤ 10000000000000) : ∀ j, j ≤ n →
    Qf.mrO a0 a1 a2 a3 a4 a5 ((X ++ lefts q low n).map V) ((rights q low n ++ Y).map V) (q / 2 ^ low) j (V (low, q / 2 ^ low)) = some (V (low + j, q / 2 ^ (low + j))) ∧ (V (low + j, q / 2 ^ (low + j))).length + 9 ≤ (V (low, q / 2 ^ low)).length + 9 + tot len9 ((lefts q low j).map V) + tot len9 ((rights q low j).map V)
  | 0, _ => ⟨rfl, by
    show (V (low, q / 2 ^ low)).length + 9 ≤ _
    omega⟩
  | j + 1, hj => by
    obtain ⟨ih, il⟩ := mr_up V (X := X) (Y := Y) hV hB j (by omega)
    have hv := hV (low + j) (by omega) (by omega)
    have ex : q / 2 ^ low / 2 ^ j = q / 2 ^ (low + j) := by rw [Nat.div_div_eq_div_mul, ← Nat.pow_add]
    have eh : q / 2 ^ (low + j + 1) = q / 2 ^ (low + j) / 2 := M.up_half _ _
    have t1 := lefts_tot V q low (n - (j + 1)) (j + 1)
    have t2 := rights_tot V q low (n - (j + 1)) (j + 1)
    rw [show j + 1 + (n - (j + 1)) = n by omega] at t1 t2
    have l1 := lefts_len (q := q) (low := low) j
    have l2 := rights_len (q := q) (low := low) j
    rw [Qf.mrO, ih, Option.bind_some, ex]
    by_cases hb : q / 2 ^ (low + j) % 2 = 1
    · obtain ⟨A, hA⟩ := lefts_at n j (by omega) hb
      have eL : tot len9 ((lefts q low (j + 1)).map V) = (V (low + j, q / 2 ^ (low + j) - 1)).length + 9 + tot len9 ((lefts q low j).map V) := by
        rw [lefts, if_pos hb, List.map_cons, tot]
      have eR : tot len9 ((rights q low (j + 1)).map V) = tot len9 ((rights q low j).map V) := by
        rw [rights, if_pos hb]
      have t3 : (V (low + j, q / 2 ^ (low + j) - 1)).length + 9 + tot len9 ((lefts q low j).map V) ≤ tot len9 ((lefts q low n).map V) := by omega
      have hg : ((X ++ lefts q low n).map V).getD (((X ++ lefts q low n).map V).length - 1 - pc j (q / 2 ^ low)) [] = V (low + j, q / 2 ^ (low + j) - 1) := by
        rw [hA, ← List.append_assoc, List.map_append, List.map_cons, List.length_append, List.length_cons, List.length_map, List.length_map, l1, List.getD_eq_getElem?_getD, List.getElem?_append_right (by rw [List.length_map]; omega), List.length_map, show (X ++ A).length + (pc j (q / 2 ^ low) + 1) - 1 - pc j (q / 2 ^ low) - (X ++ A).length = 0 by omega]
        rfl
      rw [if_pos hb, hg, toyHC _ _ _ _ _ _ _ _ (by omega) (by omega), Option.bind_some]
      rw [eh, (odd_facts hb).1, (odd_facts hb).2] at hv
      have hl := hcF_len a0 a2 a5 (V (low + j, q / 2 ^ (low + j) - 1)) (V (low + j, q / 2 ^ (low + j)))
      rw [← hv] at hl
      rw [← hv, if_pos (by omega), show low + (j + 1) = low + j + 1 by omega, eh]
      exact ⟨rfl, by omega⟩
    · have hb0 : q / 2 ^ (low + j) % 2 = 0 := by omega
      obtain ⟨C, hC⟩ := rights_at n j (by omega) hb0
      have eL : tot len9 ((lefts q low (j + 1)).map V) = tot len9 ((lefts q low j).map V) := by
        rw [lefts, if_neg hb]
      have eR : tot len9 ((rights q low (j + 1)).map V) = tot len9 ((rights q low j).map V) + ((V (low + j, q / 2 ^ (low + j) + 1)).length + 9 + 0) := by
        rw [rights, if_neg hb, List.map_append, tot_append]
        rfl
      have hg : ((rights q low n ++ Y).map V).getD (j - pc j (q / 2 ^ low)) [] = V (low + j, q / 2 ^ (low + j) + 1) := by
        rw [hC, List.append_assoc, List.map_append, List.getD_eq_getElem?_getD, List.getElem?_append_right (by rw [List.length_map]; omega), List.length_map, show j - pc j (q / 2 ^ low) - (rights q low j).length = 0 by omega]
        rfl
      have t3 : tot len9 ((rights q low j).map V) + ((V (low + j, q / 2 ^ (low + j) + 1)).length + 9) ≤ tot len9 ((rights q low n).map V) := by omega
      rw [if_neg hb, hg, toyHC _ _ _ _ _ _ _ _ (by omega) (by omega), Option.bind_some]
      rw [eh, show 2 * (q / 2 ^ (low + j) / 2) = q / 2 ^ (low + j) by omega] at hv
      have hl := hcF_len a0 a2 a5 (V (low + j, q / 2 ^ (low + j))) (V (low + j, q / 2 ^ (low + j) + 1))
      rw [← hv] at hl
      rw [← hv, if_pos (by omega), show low + (j + 1) = low + j + 1 by omega, eh]
      exact ⟨rfl, by omega⟩
theorem mgen_of (V : Nat × Nat → List Int) {p q r : Nat} (hpq : p ≤ q) (hqr : q ≤ r) (hr : r < 18446744073709551616) (hq0 : q = 0 → r ≠ 18446744073709551615) {W1 W2 W : List (Nat × Nat)} (h1 : IsN p q W1) (h2 : IsN q r W2) (hw : IsN p r W)
    (hV : ∀ k i, 2 ^ (k + 1) * i < q → q < 2 ^ (k + 1) * (i + 1) → V (k + 1, i) = hcF a0 a2 a5 (V (k, 2 * i)) (V (k, 2 * i + 1))) (hB : tot len9 (W1.map V) + tot len9 (W2.map V) ≤ 10000000000000) :
    Qf.MGen a0 a1 a2 a3 a4 a5 p q r (W1.map V) (W2.map V) (W.map V) ∧ tot len9 (W.map V) ≤ tot len9 (W1.map V) + tot len9 (W2.map V) := by
  by_cases he : q = r
  · subst he
    obtain rfl := isN_same h2
    obtain rfl := isN_uniq hw h1
    exact ⟨.inl ⟨rfl, rfl, rfl⟩, by omega⟩
  · obtain ⟨low, hgh, n, X, Y, s, t, hmp, hl64, hh63, hc, hj⟩ := merge_path hpq (by omega) hr hq0 h1 h2 hw
    have hq64 : q / 2 ^ low < 18446744073709551616 := Nat.lt_of_le_of_lt (Nat.div_le_self _ _) (by omega)
    have hdv : ((q : Int) / 2 ^ low) = ((q / 2 ^ low : Nat) : Int) := by push_cast; rfl
    have l1 := lefts_len (q := q) (low := low) n
    have l2 := rights_len (q := q) (low := low) n
    obtain ⟨w1, w2, w3, ht, h0, hsm⟩ := hj
    subst w1 w2 w3
    have b1 : tot len9 ((X ++ lefts q low n).map V) = tot len9 (X.map V) + tot len9 ((lefts q low n).map V) := by rw [List.map_append, tot_append]
    have b2 : tot len9 ((s :: (rights q low n ++ Y)).map V) = (V s).length + 9 + (tot len9 ((rights q low n).map V) + tot len9 (Y.map V)) := by
      rw [List.map_cons, tot, List.map_append, tot_append]
    have b3 : tot len9 ((X ++ t :: Y).map V) = tot len9 (X.map V) + ((V t).length + 9 + tot len9 (Y.map V)) := by
      rw [List.map_append, tot_append, List.map_cons, tot]
    have hup : Qf.mrO a0 a1 a2 a3 a4 a5 ((X ++ lefts q low n).map V) ((rights q low n ++ Y).map V) (q / 2 ^ low) n (V s) = some (V t) ∧ (V t).length + 9 ≤ (V s).length + 9 + tot len9 ((lefts q low n).map V) + tot len9 ((rights q low n).map V) := by
      rcases Nat.eq_zero_or_pos n with hn | hn
      · subst hn
        rw [h0 rfl]
        exact ⟨rfl, by omega⟩
      · obtain ⟨rfl, rfl⟩ := ht hn
        refine mr_up V (fun k k1 k2 => hV k _ (hsm hn (k + 1) (by omega)) (M.div_hi q (k + 1))) (by omega) n (Nat.le_refl _)
    refine ⟨.inr ⟨V s, (rights q low n ++ Y).map V, low, hgh, rfl, hmp, ?_⟩, by omega⟩
    rcases hc with ⟨c1, c2⟩ | c1
    · subst c2
      refine .inl ⟨c1, hl64, by rw [hdv]; exact ones_none hq64, ?_⟩
      rw [h0 rfl, show lefts q low 0 = [] from rfl, show rights q low 0 = [] from rfl, List.append_nil, List.nil_append, List.map_append, List.map_cons, List.append_assoc]
      rfl
    · refine .inr ⟨n, pc n (q / 2 ^ low), V t, c1, by omega, rfl, by rw [List.length_map, List.length_append, l1]; omega, by rw [List.length_map, List.length_append]; omega, by rw [hdv]; exact ones_gen hq64 (by omega), hup.1, ?_⟩
      have e1 : ((X ++ lefts q low n).map V).take (((X ++ lefts q low n).map V).length - pc n (q / 2 ^ low)) = X.map V := by
        rw [List.map_append, List.length_append, List.length_map, List.length_map, l1, Nat.add_sub_cancel]
        exact List.take_left' (List.length_map V)
      have e2 : ((rights q low n ++ Y).map V).drop (n - pc n (q / 2 ^ low)) = Y.map V := by
        rw [List.map_append]
        exact List.drop_left' (by rw [List.length_map]; omega)
      rw [e1, e2, List.map_append, List.map_cons, List.append_assoc]
      rfl
def Val (a0 a2 a5 : Int) (look : Nat × Nat → Option (List Int)) : Nat → Nat → List Int
  | 0, i => (look (0, i)).getD []
  | l + 1, i => (look (l + 1, i)).getD (hcF a0 a2 a5 (Val a0 a2 a5 look l (2 * i)) (Val a0 a2 a5 look l (2 * i + 1)))
theorem val_some {look : Nat × Nat → Option (List Int)} {x : Nat × Nat} {h : List Int} (hx : look x = some h) : Val a0 a2 a5 look x.1 x.2 = h := by
  obtain ⟨l, i⟩ := x
  cases l with
  | zero => rw [Val, hx]; rfl
  | succ l => rw [Val, hx]; rfl
theorem val_none {look : Nat × Nat → Option (List Int)} {l i : Nat} (hx : look (l + 1, i) = none) : Val a0 a2 a5 look (l + 1) i = hcF a0 a2 a5 (Val a0 a2 a5 look l (2 * i)) (Val a0 a2 a5 look l (2 * i + 1)) := by
  rw [Val, hx]
  rfl
theorem isN_nodup {b e : Nat} {W : List (Nat × Nat)} (h : IsN b e W) : W.Nodup := by
  have h1 := (chain_facts h.chain).1
  refine h1.imp fun {x y} hd he => ?_
  subst he
  have h2 := M.lo_hi x
  have h3 := Nat.two_pow_pos x.1
  rcases hd with hd | hd <;> omega
def at_ (W : List (Nat × Nat)) (l : List (List Int)) (x : Nat × Nat) : List Int := l.getD (W.idxOf x) []
theorem at_row {W : List (Nat × Nat)} {l : List (List Int)} (hn : W.Nodup) (hl : l.length = W.length) : W.map (at_ W l) = l := by
  refine List.ext_getElem (by rw [List.length_map, hl]) fun i h1 h2 => ?_
  rw [List.length_map] at h1
  rw [List.getElem_map, at_, hn.idxOf_getElem i h1, List.getD_eq_getElem?_getD, List.getElem?_eq_getElem h2]
  rfl
theorem in_of {b e : Nat} {W : List (Nat × Nat)} (h : IsN b e W) {x : Nat × Nat} (hx : x ∈ W) : b ≤ 2 ^ x.1 * x.2 ∧ 2 ^ x.1 * x.2 < 2 ^ x.1 * (x.2 + 1) ∧ 2 ^ x.1 * (x.2 + 1) ≤ e := by
  have h1 := chain_mem h.chain x hx
  have h2 := Nat.two_pow_pos x.1
  refine ⟨h1.1, by rw [Nat.mul_add]; omega, h1.2⟩
theorem val_three {p0 p1 p2 p3 : Nat} (_ : p0 ≤ p1) (h12 : p1 ≤ p2) (_ : p2 ≤ p3) {Wa Wb Wc : List (Nat × Nat)} (ha : IsN p0 p1 Wa) (hb : IsN p1 p2 Wb) (hc : IsN p2 p3 Wc) {la lb lc : List (List Int)} (na : la.length = Wa.length) (nb : lb.length = Wb.length) (nc : lc.length = Wc.length) :
    ∃ V : Nat × Nat → List Int, Wa.map V = la ∧ Wb.map V = lb ∧ Wc.map V = lc ∧ (∀ k i, 2 ^ (k + 1) * i < p1 → p1 < 2 ^ (k + 1) * (i + 1) → V (k + 1, i) = hcF a0 a2 a5 (V (k, 2 * i)) (V (k, 2 * i + 1))) ∧ (∀ k i, 2 ^ (k + 1) * i < p2 → p2 < 2 ^ (k + 1) * (i + 1) → V (k + 1, i) = hcF a0 a2 a5 (V (k, 2 * i)) (V (k, 2 * i + 1))) := by
  obtain ⟨look, hlook⟩ : ∃ look : Nat × Nat → Option (List Int), look = fun x => if x ∈ Wa then some (at_ Wa la x) else if x ∈ Wb then some (at_ Wb lb x) else if x ∈ Wc then some (at_ Wc lc x) else none := ⟨_, rfl⟩
  have ra : ∀ x ∈ Wa, look x = some (at_ Wa la x) := fun x hx => by rw [hlook]; exact if_pos hx
  have rb : ∀ x ∈ Wb, look x = some (at_ Wb lb x) := fun x hx => by
    rw [hlook]
    show (if x ∈ Wa then _ else _) = _
    rw [if_neg (fun h => by have := in_of ha h; have := in_of hb hx; omega), if_pos hx]
  have rc : ∀ x ∈ Wc, look x = some (at_ Wc lc x) := fun x hx => by
    rw [hlook]
    show (if x ∈ Wa then _ else _) = _
    rw [if_neg (fun h => by have := in_of ha h; have := in_of hc hx; omega), if_neg (fun h => by have := in_of hb h; have := in_of hc hx; omega), if_pos hx]
  have rn : ∀ x : Nat × Nat, x ∉ Wa → x ∉ Wb → x ∉ Wc → look x = none := fun x h1 h2 h3 => by
    rw [hlook]
    show (if x ∈ Wa then _ else _) = _
    rw [if_neg h1, if_neg h2, if_neg h3]
  have rows : ∀ {W : List (Nat × Nat)} {l : List (List Int)}, W.Nodup → l.length = W.length → (∀ x ∈ W, look x = some (at_ W l x)) → W.map (fun x => Val a0 a2 a5 look x.1 x.2) = l := fun {W l} hn hl h => by
    conv => rhs; rw [← at_row hn hl]
    exact List.map_congr_left fun x hx => val_some (h x hx)
  refine ⟨fun x => Val a0 a2 a5 look x.1 x.2, rows (isN_nodup ha) na ra, rows (isN_nodup hb) nb rb, rows (isN_nodup hc) nc rc, fun k i h1 h2 => ?_, fun k i h1 h2 => ?_⟩
  · exact val_none (rn _ (fun h => by have h3 : _ ∧ _ ∧ 2 ^ (k + 1) * (i + 1) ≤ p1 := in_of ha h; omega) (fun h => by have h3 : p1 ≤ 2 ^ (k + 1) * i ∧ _ := in_of hb h; omega) (fun h => by have h3 : p2 ≤ 2 ^ (k + 1) * i ∧ _ := in_of hc h; omega))
  · exact val_none (rn _ (fun h => by have h3 : _ ∧ _ ∧ 2 ^ (k + 1) * (i + 1) ≤ p1 := in_of ha h; omega) (fun h => by have h3 : _ ∧ _ ∧ 2 ^ (k + 1) * (i + 1) ≤ p2 := in_of hb h; omega) (fun h => by have h3 : p2 ≤ 2 ^ (k + 1) * i ∧ _ := in_of hc h; omega))
end
end Go.Proofs.YtfhcpniibiobgaaDoor.Pure
namespace Go.Proofs.YtfhcpniibiobgaaDoor.Pure
open Go.RowKit Go.Proofs.YtfhcpniibiobgaaDoorW.PrintWords Go.Proofs.YtfhcpniibiobgaaDoorW.PrintMore Go.Proofs.YtfhcpniibiobgaaDoorW.PrintLast
open Go.Proofs.YtfhcpniibiobgaaDoor.M (IsN isN_uniq isN_cut isN_ex isN_one nodesN pc)
open Core (tot tot_append tot_mem)
theorem nodes_up (b e : Int) (l : List Qf.S52) (k : Nat) (h : Qf.spec_Nodes.f k b e = some l) : ∀ d, Qf.spec_Nodes.f (k + d) b e = some l
  | 0 => h
  | d + 1 => Qf.spec_Nodes.mono b e (k + d) l (nodes_up b e l k h d)
theorem size_isN {b e : Nat} {W : List (Nat × Nat)} (hbe : b ≤ e) (he : e < 18446744073709551616) (h : IsN b e W) : Qf.compact_RangeSize.f (b : Int) (e : Int) = some ((W.length : Nat) : Int) ∧ W.length ≤ 128 := by
  obtain ⟨L, R, M, d, hf, hm⟩ := decompose_of b e hbe he
  obtain rfl := isN_uniq h (isN_cut (cut_of hm))
  exact ⟨size_of hf hm he, len128 _ _ _ _⟩
theorem fair_of (b e : Nat) (he : e < 18446744073709551616) (hs : List (List Int)) (hlen : hs.length ≤ 2147483647) : ∃ k1 fb, (∀ K, k1 + 2147483648 ≤ K → Qf.laws_rangeFair.f K (b : Int) (e : Int) hs = some fb) ∧ (fb = true → hs.length ≤ 300 ∧ (∀ h ∈ hs, h.length ≤ 5000) ∧ b ≤ e ∧ ∃ W, IsN b e W ∧ hs.length = W.length) := by
  by_cases hbe : b ≤ e
  · obtain ⟨L, R, M, d, hf, hm⟩ := decompose_of b e hbe he
    obtain ⟨k1, hk1⟩ := nodes_of hm he
    have hup : ∀ K, k1 ≤ K → Qf.spec_Nodes.f K (b : Int) (e : Int) = some _ := fun K hK => by
      obtain ⟨d, rfl⟩ : ∃ d, K = k1 + d := ⟨K - k1, by omega⟩
      exact nodes_up _ _ _ _ hk1 d
    obtain ⟨nd, hnd⟩ : ∃ nd, nd = (nodesN M e L R).length := ⟨_, rfl⟩
    have hpr : ∀ K, k1 ≤ K → Qf.spec_ProperRange.f K (b : Int) (e : Int) hs = some (decide (hs.length = nd)) := fun K hK => by
      unfold Qf.spec_ProperRange.f
      rw [if_pos (by omega), hup K hK, Option.bind_some, List.length_map, ← hnd]
      refine congrArg some ?_
      by_cases h : hs.length = nd
      · rw [decide_eq_true h]
        exact beq_iff_eq.2 (by omega)
      · rw [decide_eq_false h]
        exact beq_eq_false_iff_ne.2 (by omega)
    by_cases hq : hs.length = nd
    · obtain ⟨pb, hp, hpl⟩ := small_f hs hlen 2147483648 (Nat.le_refl _)
      refine ⟨k1, pb, fun K hK => ?_, fun ht => ⟨(hpl ht).1, (hpl ht).2, hbe, _, isN_cut (cut_of hm), hq.trans hnd⟩⟩
      have hup2 : ∀ d, Qf.laws_logSmall.f (2147483648 + d) hs = some pb := fun d => by
        induction d with
        | zero => exact hp
        | succ d ih => exact Qf.laws_logSmall.mono hs (2147483648 + d) pb ih
      obtain ⟨d, rfl⟩ : ∃ d, K = 2147483648 + d := ⟨K - 2147483648, by omega⟩
      unfold Qf.laws_rangeFair.f
      rw [hpr _ (by omega), Option.bind_some, if_pos (by rw [decide_eq_true hq]), hup2, Option.bind_some]
    · refine ⟨k1, false, fun K hK => ?_, fun h => by cases h⟩
      unfold Qf.laws_rangeFair.f
      rw [hpr K (by omega), Option.bind_some, if_neg (by simpa using hq)]
  · refine ⟨0, false, fun K _ => ?_, fun h => by cases h⟩
    unfold Qf.laws_rangeFair.f Qf.spec_ProperRange.f
    rw [if_neg (by omega), Option.bind_some, if_neg (by simp)]
theorem zz7 (b e : Int) (hs : List (List Int)) : ∃ zb, (∀ K, 2147483648 ≤ K → Qf.laws_zzFits7.f K b e hs = some zb) ∧ (zb = true → hs.length ≤ 2147483647) := by
  obtain ⟨zb, hz, hzl⟩ := zz_f hs 2147483648 (Nat.le_refl _)
  refine ⟨zb, fun K hK => ?_, hzl⟩
  have hup : ∀ d, Qf.laws_zzFits2.f (2147483648 + d) hs = some zb := fun d => by
    induction d with
    | zero => exact hz
    | succ d ih => exact Qf.laws_zzFits2.mono hs (2147483648 + d) zb ih
  obtain ⟨d, rfl⟩ : ∃ d, K = 2147483648 + d := ⟨K - 2147483648, by omega⟩
  unfold Qf.laws_zzFits7.f
  rw [hup, Option.bind_some]
  cases zb <;> rfl
theorem tot9_le (l : List (List Int)) (h : ∀ x ∈ l, x.length ≤ 5000) : tot len9 l ≤ l.length * 5009 := by
  induction l with
  | nil => simp [tot]
  | cons x l ih =>
    have h1 := h x (by simp)
    have h2 := ih fun y hy => h y (by simp [hy])
    rw [tot, List.length_cons, Nat.succ_mul]
    show x.length + 9 + tot len9 l ≤ _
    omega
end Go.Proofs.YtfhcpniibiobgaaDoor.Pure
namespace Go.Proofs.YtfhcpniibiobgaaDoor.Pure
open Go.RowKit Go.Proofs.YtfhcpniibiobgaaDoorW.PrintWords Go.Proofs.YtfhcpniibiobgaaDoorW.PrintMore Go.Proofs.YtfhcpniibiobgaaDoorW.PrintLast
open Qf (rehG)
section
variable {a0 a1 a2 a3 a4 a5 : Int}
theorem rehG_end {L : List (List Int)} {B E : Nat} (g i : Nat) (out : List (List Int)) (h : L.length ≤ i) : rehG a0 a1 a2 a3 a4 a5 L B E g i out = some out := by
  cases g with
  | zero => rfl
  | succ g => rw [rehG, if_neg (by omega)]
theorem rehG_copy {L : List (List Int)} {B E : Nat} : ∀ (m g i : Nat) (out : List (List Int)), i + m ≤ L.length → (∀ j, i ≤ j → j < i + m → ¬ (B ≤ j ∧ j < E)) → rehG a0 a1 a2 a3 a4 a5 L B E (g + m) i out = rehG a0 a1 a2 a3 a4 a5 L B E g (i + m) (out ++ (L.drop i).take m)
  | 0, g, i, out, _, _ => by
    rw [List.take_zero, List.append_nil]
    rfl
  | m + 1, g, i, out, h, hb => by
    have hi : i < L.length := by omega
    have ht : (L.drop i).take (m + 1) = L.getD i [] :: (L.drop (i + 1)).take m := by
      rw [List.drop_eq_getElem_cons hi, List.take_succ_cons, List.getD_eq_getElem?_getD, List.getElem?_eq_getElem hi]
      rfl
    rw [← Nat.add_assoc, rehG, if_pos hi, if_neg (hb i (Nat.le_refl _) (by omega)), rehG_copy m g (i + 1) _ (by omega) (fun j h1 h2 => hb j (by omega) (by omega)), ht, List.append_assoc, show i + 1 + m = i + (m + 1) by omega]
    rfl
theorem rehG_none {L : List (List Int)} {B E : Nat} (h : E ≤ B) : rehG a0 a1 a2 a3 a4 a5 L B E L.length 0 [] = some L := by
  have h2 := rehG_copy (a0 := a0) (a1 := a1) (a2 := a2) (a3 := a3) (a4 := a4) (a5 := a5) (L := L) (B := B) (E := E) L.length 0 0 [] (by omega) (fun j _ _ => by omega)
  rw [rehG_end 0 _ _ (by omega), List.drop_zero, List.take_length, List.nil_append, Nat.zero_add] at h2
  exact h2
theorem rehG_mid (A X Z : List (List Int)) (y s : List Int) (hs : Qf.chainB a0 a1 a2 a3 a4 a5 X y = some s) : rehG a0 a1 a2 a3 a4 a5 (A ++ (y :: X) ++ Z) A.length (A.length + 1 + X.length) (A ++ (y :: X) ++ Z).length 0 [] = some (A ++ [s] ++ Z) := by
  obtain ⟨L, hL⟩ : ∃ L, L = A ++ (y :: X) ++ Z := ⟨_, rfl⟩
  rw [← hL]
  have hl : L.length = (X.length + Z.length + 1) + A.length := by
    rw [hL, List.length_append, List.length_append, List.length_cons]
    omega
  have tA : (L.drop 0).take A.length = A := by
    rw [hL, List.drop_zero, List.append_assoc]
    exact List.take_left' rfl
  have gy : L.getD A.length [] = y := by
    rw [hL, List.append_assoc, List.getD_eq_getElem?_getD, List.getElem?_append_right (Nat.le_refl _), Nat.sub_self]
    rfl
  have d1 : L.drop (A.length + 1) = X ++ Z := by
    rw [hL, List.append_assoc, ← List.drop_drop, List.drop_left' rfl]
    rfl
  have tX : (L.drop (A.length + 1)).take (A.length + 1 + X.length - (A.length + 1)) = X := by
    rw [d1, Nat.add_sub_cancel_left]
    exact List.take_left' rfl
  have tZ : (L.drop (A.length + 1 + X.length)).take Z.length = Z := by
    rw [← List.drop_drop, d1, List.drop_left' rfl]
    exact List.take_length
  have h1 := rehG_copy (a0 := a0) (a1 := a1) (a2 := a2) (a3 := a3) (a4 := a4) (a5 := a5) (L := L) (B := A.length) (E := A.length + 1 + X.length) A.length (X.length + Z.length + 1) 0 [] (by omega) (fun j _ h => by omega)
  have h2 := rehG_copy (a0 := a0) (a1 := a1) (a2 := a2) (a3 := a3) (a4 := a4) (a5 := a5) (L := L) (B := A.length) (E := A.length + 1 + X.length) Z.length X.length (A.length + 1 + X.length) (A ++ [s]) (by omega) (fun j h _ => by omega)
  rw [hl, h1, Nat.zero_add, tA, List.nil_append, rehG, if_pos (by omega), if_pos ⟨Nat.le_refl _, by omega⟩, tX, gy, hs, Option.bind_some, h2, tZ, rehG_end _ _ _ (by omega)]
theorem toyBg (B : Nat) (hB : B ≤ 10000000000000) : ∀ (l : List (List Int)) (s : List Int), (∀ h ∈ l, h.length ≤ B) → s.length + (B + 9) * l.length ≤ 10000000000000 → Qf.chainB a0 a1 a2 a3 a4 a5 l s = some (chB a0 a2 a5 l s)
  | [], s, _, _ => rfl
  | h :: t, s, hl, hs => by
    have h1 := hl h (by simp)
    rw [List.length_cons, Nat.mul_succ] at hs
    have e2 := hcF_len a0 a2 a5 h s
    rw [Qf.chainB, chB, toyHC a0 a1 a2 a3 a4 a5 h s (by omega) (by omega), Option.bind_some]
    exact toyBg B hB t _ (fun x hx => hl x (by simp [hx])) (by omega)
end
end Go.Proofs.YtfhcpniibiobgaaDoor.Pure
namespace Go.Proofs.YtfhcpniibiobgaaDoor.Pure
open Go.RowKit Go.Proofs.YtfhcpniibiobgaaDoorW.PrintWords Go.Proofs.YtfhcpniibiobgaaDoorW.PrintMore Go.Proofs.YtfhcpniibiobgaaDoorW.PrintLast
open Go.Proofs.YtfhcpniibiobgaaDoor.M (pc vlen inn)
theorem chI_append (a0 a2 a5 ix : Int) : ∀ (l m : List (List Int)) (s : List Int) (i : Nat), chI a0 a2 a5 ix (l ++ m) s i = chI a0 a2 a5 ix m (chI a0 a2 a5 ix l s i) (i + l.length)
  | [], m, s, i => rfl
  | h :: t, m, s, i => by
    rw [List.cons_append, chI, chI, chI_append a0 a2 a5 ix t m, List.length_cons, show i + 1 + t.length = i + (t.length + 1) by omega]
theorem chB_append (a0 a2 a5 : Int) : ∀ (l m : List (List Int)) (s : List Int), chB a0 a2 a5 (l ++ m) s = chB a0 a2 a5 m (chB a0 a2 a5 l s)
  | [], m, s => rfl
  | h :: t, m, s => by rw [List.cons_append, chB, chB, chB_append a0 a2 a5 t m]
theorem chI_ones (a0 a2 a5 ix : Int) : ∀ (l : List (List Int)) (s : List Int) (i : Nat), (∀ j, i ≤ j → j < i + l.length → bitI ix j ≠ 0) → chI a0 a2 a5 ix l s i = chB a0 a2 a5 l s
  | [], s, i, _ => rfl
  | h :: t, s, i, hb => by
    rw [List.length_cons] at hb
    rw [chI, chB, if_neg (hb i (Nat.le_refl _) (by omega)), chI_ones a0 a2 a5 ix t _ (i + 1) (fun j h1 h2 => hb j (by omega) (by omega))]
theorem viF_at (a0 a1 a2 a3 a4 a5 : Int) (x n : Nat) (hn : n < 18446744073709551616) (l : List Int) (L : List (List Int)) (r : List Int) (hl : l.length ≤ 3000000000) (hla : (l.length : Int) = a1) (hr : r.length ≤ 100000000000000) (hL : L.length ≤ 300) (hrow : ∀ h ∈ L, h.length ≤ 3000000000) :
    Qe.viF a0 a1 a2 a3 a4 a5 (x : Int) (n : Int) l L r =
      if n ≤ x ∨ L.length ≠ inn x n + pc 64 (x / 2 ^ inn x n) then some (2, []) else
      if Qe.sameB (chB a0 a2 a5 (L.drop (inn x n)) (chI a0 a2 a5 (x : Int) (L.take (inn x n)) l 0)) r then some (0, []) else some (1, chB a0 a2 a5 (L.drop (inn x n)) (chI a0 a2 a5 (x : Int) (L.take (inn x n)) l 0)) := by
  unfold Qe.viF
  rw [if_pos ⟨by omega, by omega, by omega, fun h hh => by have := hrow h hh; omega⟩]
  by_cases hx : n ≤ x
  · rw [if_pos (by omega), if_pos (.inl hx)]
  · rw [if_neg (by omega), if_neg (by simpa using hla), decomp_f x n (by omega) hn, Option.bind_some]
    have h64 := inn_le x n (by omega) hn
    have hp := pc_le 64 (x / 2 ^ inn x n)
    generalize inn x n = m at *
    generalize pc 64 (x / 2 ^ m) = b at *
    dsimp only
    rw [if_pos ⟨by omega, by omega, by omega, by omega⟩]
    by_cases hc : L.length ≠ m + b
    · rw [if_pos (by omega), if_pos (.inr hc)]
    · rw [if_neg (by omega), if_neg (by omega), Int.toNat_natCast]
      have ht : ∀ h ∈ L.take m, h.length ≤ 3000000000 := fun h hh => hrow h (List.mem_of_mem_take hh)
      have hd : ∀ h ∈ L.drop m, h.length ≤ 3000000000 := fun h hh => hrow h (List.mem_of_mem_drop hh)
      have lt : (L.take m).length ≤ 300 := by rw [List.length_take]; omega
      have ld : (L.drop m).length ≤ 300 := by rw [List.length_drop]; omega
      have e1 := chI_len a0 a2 a5 (x : Int) (L.take m) l 0 ht
      rw [toyI a0 a1 a2 a3 a4 a5 (x : Int) (L.take m) l 0 ht (by omega), Option.bind_some, toyB a0 a1 a2 a3 a4 a5 (L.drop m) _ hd (by omega), Option.bind_some]
      have e2 := chB_len a0 a2 a5 (L.drop m) (chI a0 a2 a5 (x : Int) (L.take m) l 0) hd
      by_cases hs : Qe.sameB (chB a0 a2 a5 (L.drop m) (chI a0 a2 a5 (x : Int) (L.take m) l 0)) r = true
      · rw [if_pos hs, if_pos hs]
      · rw [if_neg hs, if_neg hs, if_pos (by omega)]
end Go.Proofs.YtfhcpniibiobgaaDoor.Pure
namespace Go.Proofs.YtfhcpniibiobgaaDoor.Pure
open Go.RowKit Go.Proofs.YtfhcpniibiobgaaDoorW.PrintWords Go.Proofs.YtfhcpniibiobgaaDoorW.PrintMore Go.Proofs.YtfhcpniibiobgaaDoorW.PrintLast
open Go.Proofs.YtfhcpniibiobgaaDoor.M (IsN In Mx mx_mem in_mono div_lo div_hi sibs sibs_length sibs_last pc pc_add pc_mod pc_zero vlen inn isN_uniq chain_append xor1_even xor1_odd bitLen_at half_div div_of isN_same Chain)
theorem align {a x y : Nat} (hx : 2 ^ a ∣ x) (hy : 2 ^ a ∣ y) (h : x < y) : x + 2 ^ a ≤ y := by
  obtain ⟨u, rfl⟩ := hx
  obtain ⟨v, rfl⟩ := hy
  have h1 : u < v := Nat.lt_of_mul_lt_mul_left h
  have h2 : 2 ^ a * (u + 1) ≤ 2 ^ a * v := Nat.mul_le_mul_left _ h1
  rw [Nat.mul_add] at h2
  omega
theorem pow_mul_dvd {a l i : Nat} (h : a ≤ l) : 2 ^ a ∣ 2 ^ l * i := Nat.dvd_trans (Nat.pow_dvd_pow 2 h) (Nat.dvd_mul_right _ _)
theorem par_lo (l j : Nat) : 2 ^ (l + 1) * (j / 2) ≤ 2 ^ l * j ∧ 2 ^ l * (j + 1) ≤ 2 ^ (l + 1) * (j / 2 + 1) := by
  rw [Nat.pow_succ, Nat.mul_assoc, Nat.mul_assoc]
  exact ⟨Nat.mul_le_mul_left _ (by omega), Nat.mul_le_mul_left _ (by omega)⟩
theorem node_len (l j : Nat) : 2 ^ l * (j + 1) = 2 ^ l * j + 2 ^ l := by rw [Nat.mul_add, Nat.mul_one]
theorem left_mx {c S t : Nat} {Lf : List (Nat × Nat)} (hd : 2 ^ (c + 1) ∣ S) (hL : IsN 0 S Lf) (h1 : S ≤ t) (h2 : t < S + 2 ^ (c + 1)) {x : Nat × Nat} (hx : x ∈ Lf) : Mx 0 t x.1 x.2 := by
  obtain ⟨m1, m2⟩ := hL.mx x hx
  refine ⟨⟨Nat.zero_le _, Nat.le_trans m1.2 h1⟩, fun hp => ?_⟩
  have p1 := par_lo x.1 x.2
  have p2 := node_len x.1 x.2
  have p3 := node_len (x.1 + 1) (x.2 / 2)
  have p4 := Nat.two_pow_pos x.1
  have p5 := m1.2
  have p6 := hp.2
  have p7 : ¬ 2 ^ (x.1 + 1) * (x.2 / 2 + 1) ≤ S := fun h => m2 ⟨Nat.zero_le _, h⟩
  rcases Nat.lt_or_ge c (x.1 + 1) with hc | hc
  · have := align hd (pow_mul_dvd (a := c + 1) (i := x.2 / 2 + 1) hc) (show S < _ by omega)
    omega
  · have := align (pow_mul_dvd (i := x.2 / 2) (Nat.le_refl (x.1 + 1))) (Nat.dvd_trans (Nat.pow_dvd_pow 2 (by omega)) hd) (show _ < S by omega)
    omega
theorem right_mx {c M n b : Nat} {Rt : List (Nat × Nat)} (hd : 2 ^ c ∣ M) (hR : IsN M n Rt) (h1 : b ≤ M) (h2 : n < M + 2 ^ c) {x : Nat × Nat} (hx : x ∈ Rt) : Mx b n x.1 x.2 := by
  obtain ⟨m1, m2⟩ := hR.mx x hx
  refine ⟨⟨Nat.le_trans h1 m1.1, m1.2⟩, fun hp => ?_⟩
  have p1 := par_lo x.1 x.2
  have p2 := node_len x.1 x.2
  have p3 := node_len (x.1 + 1) (x.2 / 2)
  have p4 := Nat.two_pow_pos x.1
  have p5 := m1.2
  have p8 := m1.1
  have p6 := hp.2
  have p7 : ¬ M ≤ 2 ^ (x.1 + 1) * (x.2 / 2) := fun h => m2 ⟨h, p6⟩
  have p9 : x.1 < c := (Nat.pow_lt_pow_iff_right (a := 2) (by omega)).1 (show 2 ^ x.1 < 2 ^ c by omega)
  have := align (pow_mul_dvd (i := x.2 / 2) (Nat.le_refl (x.1 + 1))) (Nat.dvd_trans (Nat.pow_dvd_pow 2 p9) hd) (show _ < M by omega)
  omega
theorem od {y : Nat} (h : y % 2 = 1) : y - 1 + 1 = y ∧ (y - 1) / 2 = y / 2 ∧ 2 * (y / 2) = y - 1 := by omega
theorem ev {y : Nat} (h : y % 2 = 0) : (y + 1) / 2 = y / 2 ∧ 2 * (y / 2) = y := by omega
theorem sibs_mem : ∀ (c l i : Nat) (x : Nat × Nat), x ∈ sibs c l i → ∃ k, k < c ∧ x = (l + k, (i / 2 ^ k) ^^^ 1)
  | 0, _, _, _, h => by cases h
  | c + 1, l, i, x, h => by
    rw [sibs_last] at h
    rcases List.mem_append.1 h with h | h
    · obtain ⟨k, hk, e⟩ := sibs_mem c l i x h
      exact ⟨k, by omega, e⟩
    · exact ⟨c, by omega, List.mem_singleton.1 h⟩
structure Geo (i n c S M : Nat) : Prop where
  s : S = 2 ^ c * (i / 2 ^ c)
  m : M = S + 2 ^ c
  even : i / 2 ^ c % 2 = 0
  dS : 2 ^ (c + 1) ∣ S
  dM : 2 ^ c ∣ M
  lo : S ≤ i
  hi : i < M
  mn : M ≤ n
  nt : n < M + 2 ^ c
theorem geo_of {i n c : Nat} {Rt Lf : List (Nat × Nat)} (h : Path i 0 n c Rt Lf) : ∃ S M, Geo i n c S M ∧ IsN M n Rt ∧ IsN 0 S Lf := by
  have e1 : (i / 2 ^ c + 1) * 2 ^ (0 + c) = 2 ^ c * (i / 2 ^ c) + 2 ^ c := by rw [Nat.zero_add, Nat.mul_comm, Nat.mul_add, Nat.mul_one]
  have e2 : i / 2 ^ c * 2 ^ (0 + c) = 2 ^ c * (i / 2 ^ c) := by rw [Nat.zero_add, Nat.mul_comm]
  have hr := h.right
  have hl := h.left
  have ht := h.top
  rw [e1] at hr
  rw [e2] at hl
  rw [Nat.zero_add] at ht
  have d1 := div_lo i c
  have d2 := div_hi i c
  have d3 := div_lo n c
  have d4 := div_hi n c
  rw [ht] at d3 d4
  rw [Nat.mul_add, Nat.mul_one] at d2 d3
  rw [Nat.mul_add, Nat.mul_one, Nat.mul_add, Nat.mul_one] at d4
  refine ⟨_, _, ⟨rfl, rfl, h.even, ?_, ?_, d1, d2, d3, d4⟩, hr, hl⟩
  · refine ⟨i / 2 ^ c / 2, ?_⟩
    rw [Nat.pow_succ, Nat.mul_assoc]
    rw [(ev h.even).2]
  · exact (Nat.dvd_add_right (Nat.dvd_mul_right _ _)).2 (Nat.dvd_refl _)
theorem path_nodes {i n c S M : Nat} {Rt Lf W1 W2 : List (Nat × Nat)} (g : Geo i n c S M) (hR : IsN M n Rt) (hL : IsN 0 S Lf) (h1 : IsN 0 i W1) (h2 : IsN (i + 1) n W2) {x : Nat × Nat} (hx : x ∈ sibs c 0 i ++ Rt.reverse ++ Lf.reverse) : x ∈ W1 ∨ x ∈ W2 := by
  have gm := g.m
  have gh := g.hi
  have p := Nat.two_pow_pos c
  have hpc : 2 ^ (c + 1) = 2 * 2 ^ c := by rw [Nat.pow_succ, Nat.mul_comm]
  rcases List.mem_append.1 hx with hx | hx
  · rcases List.mem_append.1 hx with hx | hx
    · obtain ⟨k, hk, rfl⟩ := sibs_mem c 0 i x hx
      have d1 := div_lo i k
      have d2 := div_hi i k
      have d3 := div_lo i (k + 1)
      have d4 := div_hi i (k + 1)
      have dh : i / 2 ^ (k + 1) = i / 2 ^ k / 2 := half_div i k
      rw [Nat.zero_add]
      by_cases hb : i / 2 ^ k % 2 = 1
      · left
        rw [xor1_odd hb]
        refine mx_mem h1 ⟨⟨Nat.zero_le _, ?_⟩, fun hp => ?_⟩
        · rw [(od hb).1]
          exact d1
        · have hp2 := hp.2
          rw [(od hb).2.1, ← dh] at hp2
          omega
      · right
        have hb0 : i / 2 ^ k % 2 = 0 := by omega
        rw [xor1_even hb0]
        refine mx_mem h2 ⟨⟨d2, ?_⟩, fun hp => ?_⟩
        · have q1 : In 0 M c (i / 2 ^ c) := ⟨Nat.zero_le _, by rw [node_len, ← g.s, ← g.m]; exact Nat.le_refl _⟩
          have q2 := (in_mono (l := k + 1) (by omega) q1).2
          rw [dh] at q2
          have q3 := (par_lo k (i / 2 ^ k + 1)).2
          rw [(ev hb0).1] at q3
          exact Nat.le_trans q3 (Nat.le_trans q2 g.mn)
        · have hp1 := hp.1
          rw [(ev hb0).1, ← dh] at hp1
          omega
    · exact .inr (mx_mem h2 (right_mx g.dM hR gh g.nt (List.mem_reverse.1 hx)))
  · exact .inl (mx_mem h1 (left_mx g.dS hL g.lo (by omega) (List.mem_reverse.1 hx)))
theorem whole_nodes {i n c S M : Nat} {Rt Lf W : List (Nat × Nat)} (g : Geo i n c S M) (hR : IsN M n Rt) (hL : IsN 0 S Lf) (hW : IsN 0 n W) : W = Lf ++ (c, i / 2 ^ c) :: Rt := by
  have gm := g.m
  have gn := g.nt
  have gs := g.s
  have gN := g.mn
  have hpc : 2 ^ (c + 1) = 2 * 2 ^ c := by rw [Nat.pow_succ, Nat.mul_comm]
  have p := Nat.two_pow_pos c
  refine isN_uniq hW ⟨chain_append hL.chain ⟨gs, ?_⟩, fun x hx => ?_⟩
  · show Chain (2 ^ c * (i / 2 ^ c + 1)) n Rt
    rw [node_len, ← gs, ← gm]
    exact hR.chain
  · rcases List.mem_append.1 hx with hx | hx
    · exact left_mx g.dS hL (by omega) (by omega) hx
    · rcases List.mem_cons.1 hx with rfl | hx
      · refine ⟨⟨Nat.zero_le _, by show 2 ^ c * (i / 2 ^ c + 1) ≤ n; rw [node_len, ← gs]; omega⟩, fun hp => ?_⟩
        have h2 := hp.2
        have h3 := node_len (c + 1) (i / 2 ^ c / 2)
        have h4 : 2 ^ (c + 1) * (i / 2 ^ c / 2) = S := by
          rw [Nat.pow_succ, Nat.mul_assoc, gs, (ev g.even).2]
        show False
        have h5 : 2 ^ (c + 1) * (i / 2 ^ c / 2 + 1) ≤ n := h2
        omega
      · exact right_mx g.dM hR (Nat.zero_le _) gn hx
theorem pc_top {d x : Nat} (hd : d ≤ 64) (hx : x < 2 ^ 64) : pc (64 - d) (x / 2 ^ d) = pc 64 (x / 2 ^ d) := by
  have h := pc_add (64 - d) d (x / 2 ^ d)
  rw [Nat.sub_add_cancel hd, Nat.div_div_eq_div_mul, ← Nat.pow_add, Nat.add_sub_cancel' hd, Nat.div_eq_of_lt hx, pc_zero, Nat.add_zero] at h
  exact h.symm
theorem pc_cut {d x : Nat} (hd : d ≤ 64) (hx : x < 2 ^ 64) : pc 64 x = pc d x + pc 64 (x / 2 ^ d) := by
  have h := pc_add d (64 - d) x
  rw [Nat.add_sub_cancel' hd, pc_top hd hx] at h
  exact h
theorem pc_ones : ∀ (d y : Nat), (∀ j, j < d → y / 2 ^ j % 2 = 1) → pc d y = d
  | 0, _, _ => rfl
  | d + 1, y, h => by
    rw [pc_add d 1 y, pc_ones d y fun j hj => h j (by omega)]
    have h1 := h d (by omega)
    show d + (y / 2 ^ d % 2 + 0) = _
    omega
theorem inn_none {i n c S M : Nat} (g : Geo i n c S M) (hn : n < 18446744073709551616) (hM : M = n) : inn i n ≤ c ∧ ∀ j, inn i n ≤ j → j < c → i / 2 ^ j % 2 = 1 := by
  have hi : i < n := by have := g.hi; omega
  have hp := Nat.two_pow_pos c
  have e1 : n - 1 = 2 ^ c * (i / 2 ^ c) + (2 ^ c - 1) := by have := g.m; have := g.s; omega
  have e2 : (n - 1) / 2 ^ c = i / 2 ^ c := by rw [e1, Nat.mul_add_div hp, Nat.div_eq_of_lt (show 2 ^ c - 1 < 2 ^ c by omega), Nat.add_zero]
  have h1 := (same_hi i (n - 1) c).1 e2.symm
  refine ⟨?_, fun j h2 h3 => ?_⟩
  · rcases Nat.lt_or_ge c (inn i n) with h | h
    · have := inn_gt i n c hi hn h
      omega
    · exact h
  · have h4 := inn_lt i n hi hn
    have h5 : 2 ^ inn i n ≤ 2 ^ j := Nat.pow_le_pow_right (by omega) h2
    have h6 := (same_hi i (n - 1) j).2 (by omega)
    rw [h6]
    obtain ⟨d, rfl⟩ : ∃ d, c = j + 1 + d := ⟨c - j - 1, by omega⟩
    have hj := Nat.two_pow_pos j
    have hd := Nat.two_pow_pos d
    have e3 : n - 1 = 2 ^ j * (2 * (2 ^ d * (i / 2 ^ (j + 1 + d) + 1)) - 1) + (2 ^ j - 1) := by
      have e4 : 2 ^ (j + 1 + d) * (i / 2 ^ (j + 1 + d) + 1) = 2 ^ j * (2 * (2 ^ d * (i / 2 ^ (j + 1 + d) + 1))) := by
        rw [Nat.pow_add, Nat.pow_succ, Nat.mul_assoc, Nat.mul_assoc]
      rw [node_len] at e4
      have e5 : 0 < 2 ^ d * (i / 2 ^ (j + 1 + d) + 1) := Nat.mul_pos hd (Nat.succ_pos _)
      generalize 2 ^ d * (i / 2 ^ (j + 1 + d) + 1) = Z at e4 e5
      have e6 : 2 ^ j * (2 * Z) = 2 ^ j * (2 * Z - 1) + 2 ^ j := by
        obtain ⟨z, rfl⟩ : ∃ z, Z = z + 1 := ⟨Z - 1, by omega⟩
        rw [show 2 * (z + 1) = (2 * (z + 1) - 1) + 1 by omega, Nat.mul_add, Nat.mul_one]
        rfl
      omega
    have e7 : 0 < 2 ^ d * (i / 2 ^ (j + 1 + d) + 1) := Nat.mul_pos hd (Nat.succ_pos _)
    rw [e3, Nat.mul_add_div hj, Nat.div_eq_of_lt (show 2 ^ j - 1 < 2 ^ j by omega), Nat.add_zero]
    omega
theorem inn_some {i n c S M : Nat} (g : Geo i n c S M) (hn : n < 18446744073709551616) (hM : M < n) : inn i n = c + 1 := by
  have hp := Nat.two_pow_pos c
  have gm := g.m
  have gs := g.s
  have gt := g.nt
  have ge := g.even
  have hpc : 2 ^ (c + 1) = 2 * 2 ^ c := by rw [Nat.pow_succ, Nat.mul_comm]
  have e1 : (n - 1) / 2 ^ c = i / 2 ^ c + 1 := div_of (by rw [node_len, ← gs]; omega) (by rw [node_len, node_len, ← gs]; omega)
  have h1 : ¬ i ^^^ (n - 1) < 2 ^ c := fun h => by
    have := (same_hi i (n - 1) c).2 h
    omega
  have h2 : i ^^^ (n - 1) < 2 ^ (c + 1) := (same_hi i (n - 1) (c + 1)).1 (by rw [half_div, half_div, e1]; omega)
  have h3 : i < 18446744073709551616 := by have := g.hi; omega
  exact bitLen_at (by omega) h2 (xor_lt i (n - 1) h3 (by omega))
theorem pc_start {i n c S M : Nat} (g : Geo i n c S M) (hn : n < 18446744073709551616) (hc : c ≤ 63) : pc 64 S = pc 64 (i / 2 ^ c) := by
  have hs : S < 2 ^ 64 := by have := g.mn; have := g.m; have := Nat.two_pow_pos c; omega
  rw [pc_cut (d := c) (by omega) hs, g.s, Nat.mul_div_cancel_left _ (Nat.two_pow_pos c), ← pc_mod c (2 ^ c * _), Nat.mul_mod_right, pc_zero, Nat.zero_add]
theorem vlen_none {i n c S M : Nat} (g : Geo i n c S M) (hn : n < 18446744073709551616) (hc : c ≤ 63) (hM : M = n) : inn i n + pc 64 (i / 2 ^ inn i n) = c + pc 64 S := by
  obtain ⟨h1, h2⟩ := inn_none g hn hM
  have hi : i < 2 ^ 64 := by have := g.hi; have := g.mn; omega
  rw [pc_start g hn hc]
  generalize inn i n = m at *
  obtain ⟨d, rfl⟩ : ∃ d, c = m + d := ⟨c - m, by omega⟩
  have h3 : i / 2 ^ m < 2 ^ 64 := Nat.lt_of_le_of_lt (Nat.div_le_self _ _) hi
  rw [pc_cut (d := d) (by omega) h3, pc_ones d (i / 2 ^ m) fun j hj => by
    rw [Nat.div_div_eq_div_mul, ← Nat.pow_add]
    exact h2 (m + j) (by omega) (by omega), Nat.div_div_eq_div_mul, ← Nat.pow_add]
  omega
theorem vlen_some {i n c S M : Nat} (g : Geo i n c S M) (hn : n < 18446744073709551616) (hc : c ≤ 63) (hM : M < n) : inn i n + pc 64 (i / 2 ^ inn i n) = c + 1 + pc 64 S := by
  have hi : i < 2 ^ 64 := by have := g.hi; have := g.mn; omega
  rw [inn_some g hn hM, pc_start g hn hc]
  have h3 : i / 2 ^ c < 2 ^ 64 := Nat.lt_of_le_of_lt (Nat.div_le_self _ _) hi
  rw [pc_cut (d := 1) (by omega) h3, half_div, show (2 : Nat) ^ 1 = 2 from rfl]
  have : pc 1 (i / 2 ^ c) = 0 := by
    show i / 2 ^ c % 2 + 0 = 0
    have := g.even
    omega
  omega
section
variable {a0 a2 a5 : Int} (V : Nat × Nat → List Int)
theorem chI_up {i : Nat} (hi : i < 18446744073709551616) : ∀ c, c ≤ 63 → (∀ k, k < c → V (k + 1, i / 2 ^ (k + 1)) = hcF a0 a2 a5 (V (k, 2 * (i / 2 ^ (k + 1)))) (V (k, 2 * (i / 2 ^ (k + 1)) + 1))) → chI a0 a2 a5 (i : Int) ((sibs c 0 i).map V) (V (0, i)) 0 = V (c, i / 2 ^ c)
  | 0, _, _ => by
    rw [Nat.pow_zero, Nat.div_one]
    rfl
  | c + 1, hc, hV => by
    rw [sibs_last, List.map_append, chI_append, chI_up hi c (by omega) fun k hk => hV k (by omega), List.length_map, sibs_length]
    have hv := hV c (by omega)
    rw [hv, half_div, Nat.zero_add]
    show (if bitI (i : Int) c = 0 then hcF a0 a2 a5 (V (c, i / 2 ^ c)) (V (c, (i / 2 ^ c) ^^^ 1)) else hcF a0 a2 a5 (V (c, (i / 2 ^ c) ^^^ 1)) (V (c, i / 2 ^ c))) = _
    rw [bitI_nat i c hi, Nat.min_eq_left (by omega)]
    by_cases hb : i / 2 ^ c % 2 = 1
    · rw [hb, if_neg (by decide), xor1_odd hb, (od hb).2.2, (od hb).1]
    · have hb0 : i / 2 ^ c % 2 = 0 := by omega
      rw [hb0, if_pos (show ((0 : Nat) : Int) = 0 from rfl), xor1_even hb0, (ev hb0).2]
end
section
variable {a0 a2 a5 : Int}
theorem two_parts (ix : Int) (A Z : List (List Int)) (s : List Int) (m : Nat) (hm : m ≤ A.length) (hb : ∀ j, m ≤ j → j < A.length → bitI ix j ≠ 0) : chB a0 a2 a5 ((A ++ Z).drop m) (chI a0 a2 a5 ix ((A ++ Z).take m) s 0) = chB a0 a2 a5 Z (chI a0 a2 a5 ix A s 0) := by
  rw [List.take_append_of_le_length hm, List.drop_append_of_le_length hm, chB_append]
  conv => rhs; rw [← List.take_append_drop m A]
  have h1 : (A.take m).length = m := by rw [List.length_take]; omega
  rw [chI_append, h1, Nat.zero_add, chI_ones a0 a2 a5 ix (A.drop m) _ m fun j h2 h3 => hb j h2 (by rw [List.length_drop] at h3; omega)]
def crown (a0 a2 a5 : Int) : List (List Int) → List Int
  | [] => []
  | [x] => x
  | x :: y :: l => hcF a0 a2 a5 x (crown a0 a2 a5 (y :: l))
theorem crown_chB : ∀ (W : List (List Int)), 0 < W.length → chB a0 a2 a5 (W.take (W.length - 1)).reverse (W.getD (W.length - 1) []) = crown a0 a2 a5 W
  | [], h => by simp at h
  | [x], _ => rfl
  | x :: y :: l, _ => by
    have ih := crown_chB (y :: l) (by simp)
    have e1 : (x :: y :: l).length - 1 = (y :: l).length - 1 + 1 := by simp
    rw [e1, List.take_succ_cons, List.reverse_cons, chB_append, List.getD_cons_succ, ih, crown]
    rfl
theorem crown_cons {x : List Int} {l : List (List Int)} (h : l ≠ []) : crown a0 a2 a5 (x :: l) = hcF a0 a2 a5 x (crown a0 a2 a5 l) := by
  cases l with
  | nil => exact absurd rfl h
  | cons y l => rfl
theorem crown_append (X : List (List Int)) (Y : List (List Int)) (h : Y ≠ []) : crown a0 a2 a5 (X ++ Y) = chB a0 a2 a5 X.reverse (crown a0 a2 a5 Y) := by
  induction X with
  | nil => rfl
  | cons x X ih =>
    rw [List.cons_append, crown_cons (by simp [h]), ih, List.reverse_cons, chB_append]
    rfl
theorem crown_len : ∀ (W : List (List Int)), (crown a0 a2 a5 W).length ≤ Core.tot (fun x => x.length + 9) W
  | [] => Nat.zero_le _
  | [x] => by
    show x.length ≤ x.length + 9 + 0
    omega
  | x :: y :: l => by
    have ih := crown_len (y :: l)
    have h := hcF_len a0 a2 a5 x (crown a0 a2 a5 (y :: l))
    show (hcF a0 a2 a5 x (crown a0 a2 a5 (y :: l))).length ≤ x.length + 9 + Core.tot _ (y :: l)
    omega
end
def pathOf (a0 a2 a5 : Int) (V : Nat × Nat → List Int) (c i : Nat) (Rt Lf : List (Nat × Nat)) : List (List Int) :=
  (sibs c 0 i).map V ++ (if Rt = [] then [] else [crown a0 a2 a5 (Rt.map V)]) ++ (Lf.map V).reverse
theorem path_taken (a0 a1 a2 a3 a4 a5 : Int) (V : Nat × Nat → List Int) {i n c S M : Nat} {Rt Lf : List (Nat × Nat)} (g : Geo i n c S M) (hn : n < 18446744073709551616) (hc : c ≤ 63) (hR : IsN M n Rt) (_hL : IsN 0 S Lf) (hll : Lf.length = pc 64 S)
    (hV : ∀ k, k < c → V (k + 1, i / 2 ^ (k + 1)) = hcF a0 a2 a5 (V (k, 2 * (i / 2 ^ (k + 1)))) (V (k, 2 * (i / 2 ^ (k + 1)) + 1)))
    (h1 : (V (0, i)).length ≤ 3000000000) (ha : ((V (0, i)).length : Int) = a1) (hlen : (pathOf a0 a2 a5 V c i Rt Lf).length ≤ 300) (hrow : ∀ h ∈ pathOf a0 a2 a5 V c i Rt Lf, h.length ≤ 3000000000) {r : List Int} (hr : r = crown a0 a2 a5 ((Lf ++ (c, i / 2 ^ c) :: Rt).map V)) (hrl : r.length ≤ 100000000000000) :
    Qe.viF a0 a1 a2 a3 a4 a5 (i : Int) (n : Int) (V (0, i)) (pathOf a0 a2 a5 V c i Rt Lf) r = some (0, []) ∧ (pathOf a0 a2 a5 V c i Rt Lf).length = vlen i n := by
  have hi : i < n := by have := g.hi; have := g.mn; omega
  have hi64 : i < 18446744073709551616 := by omega
  have hup := chI_up (a0 := a0) (a2 := a2) (a5 := a5) V hi64 c hc hV
  have hls := sibs_length c 0 i
  have hroot : r = chB a0 a2 a5 (Lf.map V).reverse (crown a0 a2 a5 (V (c, i / 2 ^ c) :: Rt.map V)) := by
    rw [hr, List.map_append, List.map_cons, crown_append _ _ (by simp)]
  have key : ∀ P m, P = pathOf a0 a2 a5 V c i Rt Lf → inn i n = m → P.length = m + pc 64 (i / 2 ^ m) → chB a0 a2 a5 (P.drop m) (chI a0 a2 a5 (i : Int) (P.take m) (V (0, i)) 0) = r → Qe.viF a0 a1 a2 a3 a4 a5 (i : Int) (n : Int) (V (0, i)) P r = some (0, []) ∧ P.length = vlen i n := fun P m hP hm hl he => by
    rw [viF_at a0 a1 a2 a3 a4 a5 i n hn (V (0, i)) P r h1 ha hrl (by rw [hP]; exact hlen) (by rw [hP]; exact hrow), hm, if_neg (by omega), he, if_pos (by exact BEq.rfl)]
    refine ⟨rfl, ?_⟩
    show _ = inn i n + pc 64 (i / 2 ^ inn i n)
    rw [hm, hl]
  by_cases hz : Rt = []
  · have hM : M = n := by
      rw [hz] at hR
      exact hR.chain
    obtain ⟨k1, k2⟩ := inn_none g hn hM
    have k3 := vlen_none g hn hc hM
    refine key _ _ rfl rfl ?_ ?_
    · rw [k3]
      unfold pathOf
      rw [if_pos hz, List.append_nil, List.length_append, List.length_reverse, List.length_map, List.length_map, hls, hll]
    · unfold pathOf
      rw [if_pos hz, List.append_nil, two_parts (i : Int) ((sibs c 0 i).map V) _ _ (inn i n) (by rw [List.length_map, hls]; exact k1) (fun j j1 j2 => by
        rw [List.length_map, hls] at j2
        rw [bitI_nat i j hi64, Nat.min_eq_left (by omega), k2 j j1 j2]
        decide), hup, hroot, hz]
      rfl
  · have hM : M < n := by
      rcases Nat.lt_or_ge M n with h | h
      · exact h
      · have : M = n := by have := g.mn; omega
        subst this
        exact absurd (isN_same hR) hz
    have k1 := inn_some g hn hM
    have k3 := vlen_some g hn hc hM
    rw [k1] at k3
    have hls2 : ((sibs c 0 i).map V ++ [crown a0 a2 a5 (Rt.map V)]).length = c + 1 := by rw [List.length_append, List.length_map, hls]; rfl
    refine key _ _ rfl k1 ?_ ?_
    · rw [k3]
      unfold pathOf
      rw [if_neg hz, List.length_append, hls2, List.length_reverse, List.length_map, hll]
    · unfold pathOf
      rw [if_neg hz, two_parts (i : Int) _ _ _ (c + 1) (by omega) (fun j j1 j2 => by omega), chI_append, hup, List.length_map, hls, Nat.zero_add, hroot, crown_cons (by simp [hz])]
      show chB a0 a2 a5 _ (if bitI (i : Int) c = 0 then _ else _) = _
      rw [bitI_nat i c hi64, Nat.min_eq_left (by omega), g.even, if_pos (show ((0 : Nat) : Int) = 0 from rfl)]
end Go.Proofs.YtfhcpniibiobgaaDoor.Pure
namespace Go.Proofs.YtfhcpniibiobgaaDoor.Pure
open Go.RowKit Go.Proofs.YtfhcpniibiobgaaDoorW.PrintWords Go.Proofs.YtfhcpniibiobgaaDoorW.PrintMore Go.Proofs.YtfhcpniibiobgaaDoorW.PrintLast
open Go.Proofs.YtfhcpniibiobgaaDoor.M (IsN sibs sibs_length vlen)
open Qf (S52 S58 S108 S35)
theorem proofIncl_ev {i n c : Nat} {Rt Lf : List (Nat × Nat)} (_hn : n < 18446744073709551616) (hi : i < n) (hp : Path i 0 n c Rt Lf) (hv : Ev (fun k => Qf.proof_nodes.f k (i : Int) ((0 : Nat) : Int) (n : Int)) (answer c 0 i (i / 2 ^ c) Rt Lf)) :
    Ev (fun k => Qf.proof_Inclusion.f k (i : Int) (n : Int)) ((sibs c 0 i ++ Rt.reverse ++ Lf.reverse).map mk108, (if Rt.length = 0 then 0 else (c : Int)), (if Rt.length = 0 then 0 else ((c + Rt.length : Nat) : Int)), ((0 + c : Nat) : Int), ((i / 2 ^ c + 1 : Nat) : Int), none) := by
  have hc := hp.lvl
  have hr := hp.rlen
  refine Ev.congr (fun k => ?_) (Ev.bind hv (f := fun _ bt => (Qf.proof_Nodes_skipFirst.f bt.1 bt.2.1 bt.2.2.1 bt.2.2.2.1 bt.2.2.2.2).bind fun bt2 => some (bt2.1, bt2.2.1, bt2.2.2.1, bt2.2.2.2.1, bt2.2.2.2.2, none)) ?_)
  · unfold Qf.proof_Inclusion.f
    rw [if_neg (by omega)]
    rfl
  · unfold answer
    dsimp only
    rw [skip_of c 0 i Rt Lf _ _ (by omega) hr, Option.bind_some]
    exact Ev.now _
theorem incl_ev {i n c : Nat} {Rt Lf : List (Nat × Nat)} (hn : n < 18446744073709551616) (hi : i < n) (hp : Path i 0 n c Rt Lf) (hv : Ev (fun k => Qf.proof_nodes.f k (i : Int) ((0 : Nat) : Int) (n : Int)) (answer c 0 i (i / 2 ^ c) Rt Lf)) :
    ∃ q2 q3 q4 q5, Ev (fun k => Qf.impl_Inclusion.f k (i : Int) (n : Int)) ((sibs c 0 i ++ Rt.reverse ++ Lf.reverse).map mk52, q2, q3, q4, q5, true) := by
  have hc := hp.lvl
  have hr := hp.rlen
  have hl := hp.llen
  have hlen : (sibs c 0 i ++ Rt.reverse ++ Lf.reverse).length < 1000 := by rw [List.length_append, List.length_append, List.length_reverse, List.length_reverse, sibs_length]; omega
  refine ⟨((0 + c : Nat) : Int), ((i / 2 ^ c + 1 : Nat) : Int), (if Rt.length = 0 then 0 else (c : Int)), (if Rt.length = 0 then 0 else ((c + Rt.length : Nat) : Int)), Ev.congr (fun k => ?_) (Ev.bind (proofIncl_ev hn hi hp hv) (f := fun k bt => if bt.2.2.2.2.2.isNone = true then (Qf.impl_fromProof.f k bt.1 bt.2.1 bt.2.2.1 bt.2.2.2.1 bt.2.2.2.2.1).bind fun b2 => some (b2.1, b2.2.1, b2.2.2.1, b2.2.2.2.1, b2.2.2.2.2, true) else some (([] : List S52), 0, 0, 0, 0, false)) ?_)⟩
  · unfold Qf.impl_Inclusion.f Qf.impl_Inclusion0.f
    rw [if_neg (by omega)]
  · dsimp only [Option.isNone]
    simp only [if_true]
    exact Ev.bind (fromProof_ev _ hlen _ _ _ _) (f := fun _ b2 => some (b2.1, b2.2.1, b2.2.2.1, b2.2.2.2.1, b2.2.2.2.2, true)) (Ev.now _)
section
variable (V : Nat × Nat → List Int)
def mkV (x : Nat × Nat) : S58 := ⟨mk52 x, V x⟩
theorem rdL (pre : List (Nat × Nat)) (x : Nat × Nat) (post : List (Nat × Nat)) : Qf.rd_L1 ((pre ++ x :: post).map V) (pre.length : Int) = V x := by
  rw [row_at _ pre.length (by rw [List.length_map, List.length_append, List.length_cons]; omega), List.getElem_map, List.getElem_append_right (Nat.le_refl _)]
  simp
theorem rd58 (pre : List (Nat × Nat)) (x : Nat × Nat) (post : List (Nat × Nat)) : Qf.rd_T58 ((pre ++ x :: post).map (mkV V)) (pre.length : Int) = mkV V x := by
  unfold Qf.rd_T58
  rw [Int.toNat_natCast, List.getD_eq_getElem?_getD, List.getElem?_map, List.getElem?_append_right (Nat.le_refl _), Nat.sub_self]
  rfl
theorem next_i (pre : List (Nat × Nat)) (x : Nat × Nat) (h : pre.length < 1000000) : wrap64 ((pre.length : Int) + 1) = ((pre ++ [x]).length : Int) := by
  rw [w64 (by omega) (by omega), List.length_append, List.length_singleton]
  omega
theorem snoc_cons {α : Type} (pre : List α) (x : α) (post : List α) : pre ++ [x] ++ post = pre ++ x :: post := by simp
theorem named_go (b e : Int) : ∀ (post pre : List (Nat × Nat)), (pre ++ post).length < 1000 →
    Ev (fun k => Qf.spec_Named.l0 k (pre.map (mkV V)) ((pre ++ post).map mk52) (((pre ++ post).length : Nat) : Int) (pre.length : Int) b e ((pre ++ post).map V)) ((pre ++ post).map (mkV V))
  | [], pre, h => by
    refine Ev.step (f := fun _ => some (pre.map (mkV V))) (fun k => ?_) ?_
    · simp only [Qf.spec_Named.l0]
      rw [if_neg (by rw [List.append_nil]; omega)]
    · rw [List.append_nil]
      exact Ev.now _
  | x :: post, pre, h => by
    have hl : (pre ++ x :: post).length = pre.length + 1 + post.length := by simp; omega
    have ih := named_go b e post (pre ++ [x]) (by rw [snoc_cons]; exact h)
    rw [snoc_cons] at ih
    refine Ev.step (fun k => ?_) ih
    simp only [Qf.spec_Named.l0]
    rw [if_pos (by omega), if_pos (by omega), if_pos (by rw [List.length_map]; omega), if_pos (by rw [List.length_map]; omega), if_pos (by rw [List.length_map]; omega), rd52, rdL, next_i pre x (by omega), show (pre ++ [x]).map (mkV V) = pre.map (mkV V) ++ [mkV V x] by simp]
    rfl
theorem named_ev {b e : Nat} (hbe : b ≤ e) (he : e < 18446744073709551616) {W : List (Nat × Nat)} (hW : IsN b e W) : Ev (fun k => Qf.spec_Named.f k (b : Int) (e : Int) (W.map V)) (W.map (mkV V)) := by
  have hl := (size_isN hbe he hW).2
  refine Ev.congr (fun k => ?_) (Ev.bind (specNodes_ev b e hbe he hW) (f := fun k t => Qf.spec_Named.l0 k [] t (t.length : Int) 0 (b : Int) (e : Int) (W.map V)) ?_)
  · rfl
  · have h := named_go V (b : Int) (e : Int) W [] (by rw [List.nil_append]; omega)
    rw [List.nil_append] at h
    rw [List.length_map]
    exact h
variable {all S : List (Nat × Nat)} {r : List (List Int) × Bool}
theorem l2_found (y : Nat × Nat) (x9 : List (List Int)) (x26 : List S52) (x27 x28 : Int) (hall : all.length < 1000) (hev : Ev (fun k => Qf.laws_growthHashes.l1 k (all.map (mkV V)) x9 x26 x27 (wrap64 (x28 + 1))) r) : ∀ (post pre : List (Nat × Nat)), pre ++ post = all →
    Ev (fun k => Qf.laws_growthHashes.l2 k (all.map (mkV V)) x9 true x26 x27 x28 (all.map (mkV V)) ((all.length : Nat) : Int) (pre.length : Int) (y.1 : Int) (y.2 : Int)) r
  | [], pre, h => by
    rw [List.append_nil] at h
    subst h
    refine Ev.step (fun k => ?_) hev
    simp only [Qf.laws_growthHashes.l2]
    rw [if_neg (by omega), if_pos trivial]
  | x :: post, pre, h => by
    have ih := l2_found y x9 x26 x27 x28 hall hev post (pre ++ [x]) (by rw [snoc_cons]; exact h)
    subst h
    have hl : (pre ++ x :: post).length = pre.length + 1 + post.length := by simp; omega
    refine Ev.step (fun k => ?_) ih
    simp only [Qf.laws_growthHashes.l2]
    rw [if_pos (by omega), if_pos (by omega), if_pos (by rw [List.length_map]; omega), next_i pre x (by omega), if_pos trivial, ite_self]
theorem l2_look (y : Nat × Nat) (x9 : List (List Int)) (x26 : List S52) (x27 x28 : Int) (hall : all.length < 1000) (hx9 : x9.length < 100000) (hsm : (V y).length < 140737488355328) (hev : Ev (fun k => Qf.laws_growthHashes.l1 k (all.map (mkV V)) (x9 ++ [V y]) x26 x27 (wrap64 (x28 + 1))) r) : ∀ (post pre : List (Nat × Nat)), pre ++ post = all → y ∈ post →
    Ev (fun k => Qf.laws_growthHashes.l2 k (all.map (mkV V)) x9 false x26 x27 x28 (all.map (mkV V)) ((all.length : Nat) : Int) (pre.length : Int) (y.1 : Int) (y.2 : Int)) r
  | [], pre, h, hy => by cases hy
  | x :: post, pre, h, hy => by
    have hl : all.length = pre.length + 1 + post.length := by rw [← h]; simp; omega
    by_cases hxy : x = y
    · subst hxy
      have hf := l2_found V x (x9 ++ [V x]) x26 x27 x28 hall hev post (pre ++ [x]) (by rw [snoc_cons]; exact h)
      subst h
      refine Ev.step (fun k => ?_) hf
      simp only [Qf.laws_growthHashes.l2]
      rw [if_pos (by omega), if_pos (by omega), if_pos (by rw [List.length_map]; omega), rd58, if_pos (by show ((x.1 : Int) == (x.1 : Int) && (x.2 : Int) == (x.2 : Int)) = true; simp), if_neg (by simp), Option.bind_some, if_pos (by show [].length + (V x).length < _; simpa using hsm), if_pos (by omega), next_i pre x (by omega)]
      rfl
    · have hy2 : y ∈ post := by
        rcases List.mem_cons.1 hy with h2 | h2
        · exact absurd h2.symm hxy
        · exact h2
      have ih := l2_look y x9 x26 x27 x28 hall hx9 hsm hev post (pre ++ [x]) (by rw [snoc_cons]; exact h) hy2
      subst h
      refine Ev.step (fun k => ?_) ih
      simp only [Qf.laws_growthHashes.l2]
      have hne : ¬ ((mkV V x).f0.f0 == (y.1 : Int) && (mkV V x).f0.f1 == (y.2 : Int)) = true := fun h2 => by
        have h2 : ((x.1 : Int) == (y.1 : Int) && (x.2 : Int) == (y.2 : Int)) = true := h2
        rw [Bool.and_eq_true, beq_iff_eq, beq_iff_eq] at h2
        exact hxy (Prod.ext (by omega) (by omega))
      rw [if_pos (by omega), if_pos (by omega), if_pos (by rw [List.length_map]; omega), rd58, if_neg hne, next_i pre x (by omega)]
theorem gh_l1 (hall : all.length < 1000) (hS : S.length < 1000) (hsm : ∀ y ∈ S, (V y).length < 140737488355328) (hin : ∀ y ∈ S, y ∈ all) : ∀ (post pre : List (Nat × Nat)), pre ++ post = S →
    Ev (fun k => Qf.laws_growthHashes.l1 k (all.map (mkV V)) (pre.map V) (S.map mk52) ((S.length : Nat) : Int) (pre.length : Int)) (S.map V, true)
  | [], pre, h => by
    rw [List.append_nil] at h
    subst h
    refine Ev.step (f := fun _ => some (pre.map V, true)) (fun k => ?_) (Ev.now _)
    simp only [Qf.laws_growthHashes.l1]
    rw [if_neg (by omega)]
  | x :: post, pre, h => by
    have ih := gh_l1 hall hS hsm hin post (pre ++ [x]) (by rw [snoc_cons]; exact h)
    have hx : x ∈ S := by rw [← h]; simp
    have hl : S.length = pre.length + 1 + post.length := by rw [← h]; simp; omega
    rw [← next_i pre x (by omega), List.map_append] at ih
    have hk := l2_look V x (pre.map V) (S.map mk52) ((S.length : Nat) : Int) (pre.length : Int) hall (by rw [List.length_map]; omega) (hsm x hx) ih all [] rfl (hin x hx)
    subst h
    refine Ev.step (fun k => ?_) hk
    simp only [Qf.laws_growthHashes.l1]
    rw [if_pos (by omega), if_pos (by omega), if_pos (by rw [List.length_map]; omega), rd52, List.length_map]
    rfl
theorem gh_ev {p0 p1 p2 p3 : Nat} (h01 : p0 ≤ p1) (h1 : p1 < 18446744073709551616) (h23 : p2 ≤ p3) (h3 : p3 < 18446744073709551616) {Wa Wc : List (Nat × Nat)} (ha : IsN p0 p1 Wa) (hc : IsN p2 p3 Wc) (hS : S.length < 1000) (hsm : ∀ y ∈ S, (V y).length < 140737488355328) (hin : ∀ y ∈ S, y ∈ Wa ∨ y ∈ Wc) :
    Ev (fun k => Qf.laws_growthHashes.f k (S.map mk52) [⟨(p0 : Int), (p1 : Int), Wa.map V⟩, ⟨(p2 : Int), (p3 : Int), Wc.map V⟩]) (S.map V, true) := by
  have la := (size_isN h01 h1 ha).2
  have lc := (size_isN h23 h3 hc).2
  have x0 : Qf.rd_T35 [⟨(p0 : Int), (p1 : Int), Wa.map V⟩, ⟨(p2 : Int), (p3 : Int), Wc.map V⟩] 0 = ⟨(p0 : Int), (p1 : Int), Wa.map V⟩ := rfl
  have x1 : Qf.rd_T35 [⟨(p0 : Int), (p1 : Int), Wa.map V⟩, ⟨(p2 : Int), (p3 : Int), Wc.map V⟩] 1 = ⟨(p2 : Int), (p3 : Int), Wc.map V⟩ := rfl
  have hall := gh_l1 V (all := Wa ++ Wc) (S := S) (by rw [List.length_append]; omega) hS hsm (fun y hy => List.mem_append.2 (hin y hy)) S [] rfl
  have s2 : Ev (fun k => Qf.laws_growthHashes.l0 k (S.map mk52) ((Wa ++ Wc).map (mkV V)) [⟨(p0 : Int), (p1 : Int), Wa.map V⟩, ⟨(p2 : Int), (p3 : Int), Wc.map V⟩] 2 2) (S.map V, true) := by
    refine Ev.step (fun k => ?_) hall
    simp only [Qf.laws_growthHashes.l0]
    rw [if_neg (by omega), List.length_map]
    rfl
  have s1 : Ev (fun k => Qf.laws_growthHashes.l0 k (S.map mk52) (Wa.map (mkV V)) [⟨(p0 : Int), (p1 : Int), Wa.map V⟩, ⟨(p2 : Int), (p3 : Int), Wc.map V⟩] 2 1) (S.map V, true) := by
    refine Ev.step (fun k => ?_) (Ev.bind (named_ev V h23 h3 hc) (f := fun k t => Qf.laws_growthHashes.l0 k (S.map mk52) (Wa.map (mkV V) ++ t) [⟨(p0 : Int), (p1 : Int), Wa.map V⟩, ⟨(p2 : Int), (p3 : Int), Wc.map V⟩] 2 2) (by rw [← List.map_append]; exact s2))
    simp only [Qf.laws_growthHashes.l0]
    rw [if_pos (by omega), if_pos (by omega), if_pos (by simp), x1]
    rcases hn : Qf.spec_Named.f k (p2 : Int) (p3 : Int) (Wc.map V) with _ | t
    · rfl
    · obtain ⟨K, hK⟩ := named_ev V h23 h3 hc
      have ht : t = Wc.map (mkV V) := by
        have h4 := at_rounds (fun k => Qf.spec_Named.mono (p2 : Int) (p3 : Int) (Wc.map V) k) (Nat.le_max_left k K) hn
        exact (Option.some.inj ((hK _ (Nat.le_max_right k K)).symm.trans h4)).symm
      rw [Option.bind_some, Option.bind_some, if_pos (by rw [ht, List.length_map, List.length_map]; omega), show wrap64 (1 + 1) = 2 from w64 (by omega) (by omega)]
  unfold Qf.laws_growthHashes.f
  refine Ev.step (fun k => ?_) (Ev.bind (named_ev V h01 h1 ha) (f := fun k t => Qf.laws_growthHashes.l0 k (S.map mk52) t [⟨(p0 : Int), (p1 : Int), Wa.map V⟩, ⟨(p2 : Int), (p3 : Int), Wc.map V⟩] 2 1) s1)
  simp only [Qf.laws_growthHashes.l0]
  rw [if_pos (by simp), if_pos (by omega), if_pos (by simp), x0]
  rcases hn : Qf.spec_Named.f k (p0 : Int) (p1 : Int) (Wa.map V) with _ | t
  · rfl
  · obtain ⟨K, hK⟩ := named_ev V h01 h1 ha
    have ht : t = Wa.map (mkV V) := by
      have h4 := at_rounds (fun k => Qf.spec_Named.mono (p0 : Int) (p1 : Int) (Wa.map V) k) (Nat.le_max_left k K) hn
      exact (Option.some.inj ((hK _ (Nat.le_max_right k K)).symm.trans h4)).symm
    rw [Option.bind_some, Option.bind_some, if_pos (by rw [ht, List.length_map]; simp; omega), show wrap64 (0 + 1) = 1 from w64 (by omega) (by omega), List.nil_append]
    rfl
end
theorem next_three (K0 : Nat) (b e E1 b3 x : Nat) (l1 l3 : List (List Int)) (s : List Int) (f1 f2 f3 : Bool) (h1 : ∀ K, K0 ≤ K → Qf.laws_rangeFair.f K (b : Int) (e : Int) l1 = some f1) (h2 : ∀ K, K0 ≤ K → Qf.laws_rangeFair.f K (e : Int) (E1 : Int) [s] = some f2) (h3 : ∀ K, K0 ≤ K → Qf.laws_rangeFair.f K (b3 : Int) (x : Int) l3 = some f3) : ∀ K, K0 + 4 ≤ K → Qf.laws_growthNext.f K [⟨(b : Int), (e : Int), l1⟩, ⟨(e : Int), (E1 : Int), [s]⟩, ⟨(b3 : Int), (x : Int), l3⟩] = some (f1 && decide (b = 0) && f2 && f3 && decide (b3 = E1)) := by
  intro K hK
  obtain ⟨K, rfl⟩ : ∃ k, K = k + 1 + 1 + 1 + 1 := ⟨K - 4, by omega⟩
  obtain ⟨L, hL⟩ : ∃ L : List S35, L = [⟨(b : Int), (e : Int), l1⟩, ⟨(e : Int), (E1 : Int), [s]⟩, ⟨(b3 : Int), (x : Int), l3⟩] := ⟨_, rfl⟩
  have x0 : Qf.rd_T35 L 0 = ⟨(b : Int), (e : Int), l1⟩ := by rw [hL]; rfl
  have x1 : Qf.rd_T35 L 1 = ⟨(e : Int), (E1 : Int), [s]⟩ := by rw [hL]; rfl
  have x2 : Qf.rd_T35 L 2 = ⟨(b3 : Int), (x : Int), l3⟩ := by rw [hL]; rfl
  have ll : (L.length : Int) = 3 := by rw [hL]; rfl
  rw [← hL]
  clear hL
  unfold Qf.laws_growthNext.f
  rw [ll, Qf.laws_growthNext.l0, if_pos (by omega), if_pos (by omega), if_pos (by omega), x0]
  dsimp only
  rw [h1 _ (by omega), Option.bind_some]
  cases f1 with
  | false => rfl
  | true =>
    rw [if_pos rfl, Bool.true_and]
    by_cases hb : b = 0
    · rw [if_pos (by omega), decide_eq_true hb, show wrap64 (0 + 1) = 1 from w64 (by omega) (by omega), Qf.laws_growthNext.l0, if_pos (by omega), if_pos (by omega), if_pos (by omega), x1]
      dsimp only
      rw [h2 _ (by omega), Option.bind_some]
      cases f2 with
      | false => rfl
      | true =>
        rw [if_pos rfl, if_pos rfl, Bool.true_and, Bool.true_and, show wrap64 (1 + 1) = 2 from w64 (by omega) (by omega), Qf.laws_growthNext.l0, if_pos (by omega), if_pos (by omega), if_pos (by omega), x2]
        dsimp only
        rw [h3 _ (by omega), Option.bind_some]
        cases f3 with
        | false => rfl
        | true =>
          rw [if_pos rfl, Bool.true_and]
          by_cases hb3 : b3 = E1
          · rw [if_pos (by omega), decide_eq_true hb3, show wrap64 (2 + 1) = 3 from w64 (by omega) (by omega), Qf.laws_growthNext.l0, if_neg (by omega)]
          · rw [if_neg (by omega), decide_eq_false hb3]
    · rw [if_neg (by omega), decide_eq_false hb]
      rfl
theorem parts_ev {i n : Nat} (hi : i < n) (hn : n < 18446744073709551616) : ∃ l, (∀ K, 200 ≤ K → Qf.spec_PathParts.f K (i : Int) (n : Int) = some l) ∧ l.length = vlen i n := by
  have key : ∀ K, 200 ≤ K → ∃ l, Qf.spec_pathIn.f K (i : Int) ((0 : Nat) : Int) (n : Int) = some l ∧ l.length = vlen (i - 0) (n - 0) ∧ l.length ≤ 64 := fun K hK => path_go i 64 0 n K (Nat.le_refl _) (Nat.zero_le _) hi hn (by omega) (by omega)
  obtain ⟨l, h1, h2, _⟩ := key 200 (Nat.le_refl _)
  refine ⟨l, fun K hK => ?_, h2⟩
  have h3 := at_rounds (fun k => Qf.spec_pathIn.mono (i : Int) ((0 : Nat) : Int) (n : Int) k) hK h1
  unfold Qf.spec_PathParts.f
  show (Qf.spec_pathIn.f K (i : Int) ((0 : Nat) : Int) (n : Int)).bind _ = _
  rw [h3, Option.bind_some]
end Go.Proofs.YtfhcpniibiobgaaDoor.Pure
