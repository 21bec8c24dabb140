/- The nodes of which a path is made, as the program makes them. Conditions: the node is in the log, its level below 64. -/
import Derived.Test.YtmcelgfekffinaaDoorQtRN
import Derived.Test.YtmcelgfekffinaaDoorPa
import Derived.Test.YtmcelgfekffinaaDoorQtx4
namespace Go.Proofs.YtmcelgfekffinaaDoor.Pure
open Go.RowKit Go.Proofs.YtmcelgfekffinaaDoor.Qt Go.Proofs.YtmcelgfekffinaaDoorW.PrintWords Go.Proofs.YtmcelgfekffinaaDoorW.PrintLast
open Go.Proofs.YtmcelgfekffinaaDoor.M (leftN rightN nodesN IsN sibs sibs_length xor1_even)

theorem range_of (b e : Nat) (hbe : b ≤ e) (he : e < 18446744073709551616) : ∃ W : List (Nat × Nat), IsN b e W ∧ W.length ≤ 128 ∧ compact_RangeSize.f (b : Int) (e : Int) = some ((W.length : Nat) : Int) ∧
    ∀ out : List S46, out.length < 800 → Ev (fun k => compact_RangeNodes.f k (b : Int) (e : Int) out) (out ++ W.map mk46) := by
  obtain ⟨L, R, X, d, hf, hm⟩ := decompose_of b e hbe he
  refine ⟨nodesN X e L R, M.isN_cut (cut_of hm), len128 _ _ _ _, size_of hf hm he, ?_⟩
  intro out ho
  obtain ⟨k, hk⟩ := rangeNodes_of hf hm he out ho
  exact Ev.of (fun _ => compact_RangeNodes.mono _ _ _ _) hk

theorem rd_mid (A : List S46) (x : S46) (B : List S46) (i : Int) (hi : i = (A.length : Int)) : rd_T46 (A ++ x :: B) i = x := by
  subst hi
  unfold rd_T46
  rw [Int.toNat_natCast, List.getD_eq_getElem?_getD, List.getElem?_append_right (Nat.le_refl _), Nat.sub_self]
  rfl
theorem set_mid (A : List S46) (x y : S46) (B : List S46) (i : Int) (hi : i = (A.length : Int)) : (A ++ x :: B).set i.toNat y = A ++ y :: B := by
  subst hi
  rw [Int.toNat_natCast, List.set_append_right _ _ (Nat.le_refl _), Nat.sub_self, List.set_cons_zero]

theorem rev_of : ∀ (n : Nat) (M A B : List S46), M.length = n → A.length + M.length + B.length < 4611686018427387904 →
    Ev (fun k => proof_reverse.l0 k (A ++ M ++ B) (A.length : Int) ((A.length : Int) + (M.length : Int) - 1)) (A ++ M.reverse ++ B) := by
  intro n
  induction n using Nat.strongRecOn with
  | _ n ih =>
  intro M A B hn hlen
  rcases Nat.lt_or_ge M.length 2 with h2 | h2
  · have hr : M.reverse = M := by
      match M, h2 with
      | [], _ => rfl
      | [_], _ => rfl
    rw [hr]
    refine Ev.step (f := fun _ => some (A ++ M ++ B)) ?_ (Ev.now _)
    intro k
    simp only [proof_reverse.l0]
    rw [if_neg (by omega)]
  · obtain ⟨x, M1, rfl⟩ : ∃ x M1, M = x :: M1 := by
      cases M with
      | nil => simp at h2
      | cons x M1 => exact ⟨x, M1, rfl⟩
    have hne : M1 ≠ [] := by
      rintro rfl
      simp at h2
    obtain ⟨M2, y, rfl⟩ : ∃ M2 y, M1 = M2 ++ [y] := ⟨M1.dropLast, M1.getLast hne, (List.dropLast_concat_getLast hne).symm⟩
    have hl : (x :: (M2 ++ [y])).length = M2.length + 2 := by simp
    have ih1 := ih M2.length (by omega) M2 (A ++ [y]) (x :: B) rfl (by simp only [List.length_append, List.length_cons, List.length_nil] at hlen ⊢; omega)
    have e0 : A ++ x :: (M2 ++ [y]) ++ B = A ++ x :: (M2 ++ y :: B) := by simp
    have e1 : A ++ x :: (M2 ++ y :: B) = (A ++ x :: M2) ++ y :: B := by simp
    have e3 : (A ++ y :: M2) ++ x :: B = A ++ [y] ++ M2 ++ (x :: B) := by simp
    have r1 : rd_T46 (A ++ x :: (M2 ++ [y]) ++ B) (A.length : Int) = x := by rw [e0]; exact rd_mid A x _ _ rfl
    have r2 : rd_T46 (A ++ x :: (M2 ++ [y]) ++ B) ((A.length : Int) + ((x :: (M2 ++ [y])).length : Int) - 1) = y := by
      rw [e0, e1]
      exact rd_mid _ y B _ (by simp only [List.length_append, List.length_cons, List.length_nil]; omega)
    have s1 : (A ++ x :: (M2 ++ [y]) ++ B).set (A.length : Int).toNat y = (A ++ y :: M2) ++ y :: B := by
      rw [e0, set_mid A x y _ _ rfl]
      simp
    have s2 : ((A ++ y :: M2) ++ y :: B).set ((A.length : Int) + ((x :: (M2 ++ [y])).length : Int) - 1).toNat x = A ++ [y] ++ M2 ++ (x :: B) := by
      rw [set_mid _ y x B _ (by simp only [List.length_append, List.length_cons, List.length_nil]; omega), e3]
    have er : A ++ (x :: (M2 ++ [y])).reverse ++ B = A ++ [y] ++ M2.reverse ++ (x :: B) := by simp
    rw [er]
    refine Ev.step ?_ ih1
    intro k
    simp only [proof_reverse.l0]
    have hz : (A ++ x :: (M2 ++ [y]) ++ B).length = A.length + (M2.length + 2) + B.length := by simp only [List.length_append, List.length_cons, List.length_nil] <;> omega
    rw [if_pos (by rw [hl]; omega), if_pos (by rw [hl]; omega), if_pos (by rw [hz, hl]; omega), if_pos (by omega), if_pos (by rw [hz]; omega), r1, r2]
    rw [s1, s2]
    have w1 : wrap64 ((A.length : Int) + 1) = ((A ++ [y]).length : Int) := by
      rw [w64 (by omega) (by simp only [List.length_append, List.length_cons, List.length_nil] at hlen; omega)]
      simp
    have w2 : wrap64 ((A.length : Int) + ((x :: (M2 ++ [y])).length : Int) - 1 - 1) = ((A ++ [y]).length : Int) + (M2.length : Int) - 1 := by
      rw [w64 (by rw [hl]; omega) (by rw [hl]; simp only [List.length_append, List.length_cons, List.length_nil] at hlen; omega), hl]
      simp only [List.length_append, List.length_cons, List.length_nil]
      omega
    rw [w1, w2]

theorem revtail_of (A M : List S46) (i : Int) (hi : i = (A.length : Int)) (hlen : A.length + M.length < 1000000) : Ev (fun k => proof_revtail.f k (A ++ M) i) (A ++ M.reverse) := by
  subst hi
  have h := rev_of M.length M [] [] rfl (by simp; omega)
  simp only [List.nil_append, List.append_nil, List.length_nil] at h
  have hr : Ev (fun k => proof_reverse.f k M) M.reverse := by
    refine Ev.congr (fun k => ?_) h
    unfold proof_reverse.f
    rw [w64 (by omega) (by omega)]
    simp
  have hb : Ev (fun k => (proof_reverse.f k M).bind fun r => some (A ++ r)) (A ++ M.reverse) := Ev.bind hr (Ev.now _)
  refine Ev.congr (fun k => ?_) hb
  unfold proof_revtail.f
  rw [if_pos (by omega), if_pos (by rw [List.length_append]; omega), Int.toNat_natCast, List.drop_left, List.take_left]

theorem sibs_of (x2 x9 x10 x11 x12 : Int) (F0 F1 : Int) (r : List S46 × Int × Int × Int × Int) : ∀ (c l i : Nat) (out : List S46), F0 = ((l + c : Nat) : Int) → l + c ≤ 64 → i < 18446744073709551616 → out.length + c < 800 →
    Ev (fun k => proof_nodes.l0 k x2 x9 x10 x11 x12 (out ++ (sibs c l i).map mk46) F0 F1 ((l + c : Nat) : Int) ((i / 2 ^ c : Nat) : Int)) r →
    Ev (fun k => proof_nodes.l0 k x2 x9 x10 x11 x12 out F0 F1 (l : Int) (i : Int)) r
  | 0, l, i, out, _, _, _, _, h => by
    simpa [sibs] using h
  | c + 1, l, i, out, hF, hlc, hi, hout, h => by
    have h1 : Ev (fun k => proof_nodes.l0 k x2 x9 x10 x11 x12 (out ++ [mk46 (l, i ^^^ 1)]) F0 F1 ((l + 1 : Nat) : Int) ((i / 2 : Nat) : Int)) r := by
      refine sibs_of x2 x9 x10 x11 x12 F0 F1 r c (l + 1) (i / 2) (out ++ [mk46 (l, i ^^^ 1)]) (by rw [hF]; omega) (by omega) (by omega) (by rw [List.length_append]; simp; omega) ?_
      rw [show l + 1 + c = l + (c + 1) by omega, Nat.div_div_eq_div_mul, ← Nat.pow_succ', List.append_assoc]
      exact h
    refine Ev.step ?_ h1
    intro k
    simp only [proof_nodes.l0]
    rw [if_pos (by rw [hF]; omega)]
    simp only [compact_NodeID_Sibling.f, compact_NodeID_Parent.f, compact_NewNodeID.f, Option.bind_some]
    rw [if_pos (by simp; omega)]
    have e1 : IntKind.u64.wrap ((l : Int) + 1) = ((l + 1 : Nat) : Int) := by rw [wu64 (by omega) (by omega)]; omega
    have e2 : (i : Int) / 2 = ((i / 2 : Nat) : Int) := by omega
    have e3 : Go.bits .xor .u64 (i : Int) 1 = ((i ^^^ 1 : Nat) : Int) := by
      rw [show (1 : Int) = ((1 : Nat) : Int) from rfl, bits_xor_u64_nat _ _ hi (by omega)]
    rw [e1, e2, e3]
    rfl

/-- What is known of a path: c levels up from the node (l, i) the ways to it and to the first leaf behind the log part. -/
structure Path (i l s c : Nat) (Rt Lf : List (Nat × Nat)) : Prop where
  even : i / 2 ^ c % 2 = 0
  top : s / 2 ^ (l + c) = i / 2 ^ c + 1
  lvl : l + c ≤ 63
  right : IsN ((i / 2 ^ c + 1) * 2 ^ (l + c)) s Rt
  left : IsN 0 (i / 2 ^ c * 2 ^ (l + c)) Lf
  rlen : Rt.length ≤ 128
  llen : Lf.length ≤ 128

theorem path_facts {i l s : Nat} (_hl : l ≤ 63) (hs : s < 18446744073709551616) (hi : i < s / 2 ^ l) :
    ∃ c, Lib.bitLen (i ^^^ (s / 2 ^ l)) = c + 1 ∧ i ^^^ (s / 2 ^ l) < 18446744073709551616 ∧ i / 2 ^ c % 2 = 0 ∧ s / 2 ^ (l + c) = i / 2 ^ c + 1 ∧ l + c ≤ 63 := by
  have hN : s / 2 ^ l ≤ s := Nat.div_le_self _ _
  have hz0 : i ^^^ (s / 2 ^ l) ≠ 0 := by
    intro h0
    have h1 : i = s / 2 ^ l := by
      have := congrArg (fun t => i ^^^ t) h0
      simpa [← Nat.xor_assoc] using this.symm
    omega
  have hzl : i ^^^ (s / 2 ^ l) < 2 ^ 64 := Nat.xor_lt_two_pow (by omega) (by omega)
  obtain ⟨k1, k2, k3, k4⟩ := M.len_spec _ hz0 hzl
  obtain ⟨d, hd⟩ : ∃ d, Lib.bitLen (i ^^^ (s / 2 ^ l)) = d + 1 := ⟨Lib.bitLen (i ^^^ (s / 2 ^ l)) - 1, by omega⟩
  rw [hd] at k1 k2 k3 k4
  have hD : 0 < 2 ^ d := Nat.two_pow_pos d
  have hq1 : (i ^^^ (s / 2 ^ l)) / 2 ^ d = 1 := by
    rw [Nat.div_eq_iff hD]
    rw [Nat.pow_succ] at k4
    rw [Nat.add_sub_cancel] at k3
    omega
  have hx : (i / 2 ^ d) ^^^ (s / 2 ^ l / 2 ^ d) = 1 := by
    rw [← Nat.shiftRight_eq_div_pow, ← Nat.shiftRight_eq_div_pow (m := s / 2 ^ l), ← Nat.shiftRight_xor_distrib, Nat.shiftRight_eq_div_pow]
    exact hq1
  have hle : i / 2 ^ d ≤ s / 2 ^ l / 2 ^ d := Nat.div_le_div_right (by omega)
  obtain ⟨hq, hp⟩ := M.xor_one_cases hx hle
  have htop : s / 2 ^ (l + d) = i / 2 ^ d + 1 := by rw [Nat.pow_add, ← Nat.div_div_eq_div_mul]; exact hq
  refine ⟨d, hd, hzl, hp, htop, ?_⟩
  have h1 : 2 ^ (l + d) ≤ s := by
    have h2 : 1 ≤ s / 2 ^ (l + d) := by rw [htop]; exact Nat.le_add_left _ _
    have := (Nat.le_div_iff_mul_le (Nat.two_pow_pos (l + d))).1 h2
    omega
  have : 2 ^ (l + d) < 2 ^ 64 := Nat.lt_of_le_of_lt h1 hs
  have := (Nat.pow_lt_pow_iff_right (a := 2) (by omega)).1 this
  omega

/-- The list of a path's nodes. -/
def ids (c l i : Nat) (Rt Lf : List (Nat × Nat)) : List (Nat × Nat) := (l, i) :: (sibs c l i ++ Rt.reverse ++ Lf.reverse)

/-- What the nodes come to, with their places. -/
def answer (c l i q : Nat) (Rt Lf : List (Nat × Nat)) : List S46 × Int × Int × Int × Int :=
  ((ids c l i Rt Lf).map mk46, (if Rt.length = 0 then 0 else ((1 + c : Nat) : Int)), (if Rt.length = 0 then 0 else ((1 + c + Rt.length : Nat) : Int)), ((l + c : Nat) : Int), ((q + 1 : Nat) : Int))

/-- Behind the siblings. -/
theorem fin_of {s c l i q B E : Nat} {Rt Lf : List (Nat × Nat)} (heven : q % 2 = 0) (hq : q < 18446744073709551615) (hc : c ≤ 63) (hRl : Rt.length ≤ 128) (hLl : Lf.length ≤ 128)
    (hRr : ∀ out : List S46, out.length < 800 → Ev (fun k => compact_RangeNodes.f k (E : Int) (s : Int) out) (out ++ Rt.map mk46))
    (hLr : ∀ out : List S46, out.length < 800 → Ev (fun k => compact_RangeNodes.f k 0 (B : Int) out) (out ++ Lf.map mk46)) :
    Ev (fun k => proof_nodes.l0 k (s : Int) (B : Int) (E : Int) ((Lf.length : Nat) : Int) ((Rt.length : Nat) : Int) ([mk46 (l, i)] ++ (sibs c l i).map mk46) ((l + c : Nat) : Int) (q : Int) ((l + c : Nat) : Int) (q : Int)) (answer c l i q Rt Lf) := by
  have hol : ([mk46 (l, i)] ++ (sibs c l i).map mk46).length = 1 + c := by rw [List.length_append, List.length_map, sibs_length]; rfl
  have hids : (ids c l i Rt Lf).map mk46 = [mk46 (l, i)] ++ (sibs c l i).map mk46 ++ (Rt.map mk46).reverse ++ (Lf.map mk46).reverse := by simp [ids]
  unfold answer
  rw [hids]
  clear hids
  generalize [mk46 (l, i)] ++ (sibs c l i).map mk46 = O at hol ⊢
  have h1 := hRr O (by omega)
  have h2 := revtail_of O (Rt.map mk46) ((1 + c : Nat) : Int) (by rw [hol]) (by rw [hol, List.length_map]; omega)
  have h3 := hLr (O ++ (Rt.map mk46).reverse) (by rw [List.length_append, List.length_reverse, List.length_map]; omega)
  have h4 := revtail_of (O ++ (Rt.map mk46).reverse) (Lf.map mk46) ((1 + c + Rt.length : Nat) : Int) (by rw [List.length_append, List.length_reverse, List.length_map, hol]) (by simp only [List.length_append, List.length_reverse, List.length_map, hol]; omega)
  have e5 : wrap64 ((((O ++ Rt.map mk46).length : Nat) : Int) - ((Rt.length : Nat) : Int)) = ((1 + c : Nat) : Int) := by
    rw [List.length_append, List.length_map, hol, w64 (by omega) (by omega)]; omega
  have e6 : wrap64 ((((O ++ (Rt.map mk46).reverse ++ Lf.map mk46).length : Nat) : Int) - ((Lf.length : Nat) : Int)) = ((1 + c + Rt.length : Nat) : Int) := by
    simp only [List.length_append, List.length_reverse, List.length_map, hol]
    rw [w64 (by omega) (by omega)]; omega
  have hsib : compact_NodeID_Sibling.f ((l + c : Nat) : Int) (q : Int) = some (((l + c : Nat) : Int), ((q + 1 : Nat) : Int)) := by
    simp only [compact_NodeID_Sibling.f, compact_NewNodeID.f, Option.bind_some]
    rw [show (1 : Int) = ((1 : Nat) : Int) from rfl, bits_xor_u64_nat _ _ (by omega) (by omega), xor1_even heven]
  refine Ev.step (f := fun k => (compact_RangeNodes.f k (E : Int) (s : Int) O).bind fun t188 => ((proof_revtail.f k t188 (wrap64 ((t188.length : Int) - ((Rt.length : Nat) : Int)))).bind fun t191 => ((compact_RangeNodes.f k 0 (B : Int) t191).bind fun t192 => ((proof_revtail.f k t192 (wrap64 ((t192.length : Int) - ((Lf.length : Nat) : Int)))).bind fun t195 => (if (O.length : Int) ≥ (t188.length : Int) then ((compact_NodeID_Sibling.f ((l + c : Nat) : Int) (q : Int)).bind fun bt196 => (some (t195, 0, 0, bt196.1, bt196.2))) else ((compact_NodeID_Sibling.f ((l + c : Nat) : Int) (q : Int)).bind fun bt198 => (some (t195, (O.length : Int), (t188.length : Int), bt198.1, bt198.2)))))))) (fun k => ?_) ?_
  · simp only [proof_nodes.l0]
    rw [if_neg (by omega)]
  · refine Ev.bind h1 (Ev.bind (a := O ++ (Rt.map mk46).reverse) ?_ (Ev.bind h3 (Ev.bind (a := O ++ (Rt.map mk46).reverse ++ (Lf.map mk46).reverse) ?_ ?_)))
    · rw [e5]; exact h2
    · rw [e6]; exact h4
    · rw [hsib]
      simp only [Option.bind_some]
      by_cases hz : Rt.length = 0
      · rw [if_pos (by rw [List.length_append, List.length_map]; omega), if_pos hz, if_pos hz]
        exact Ev.now _
      · rw [if_neg (by rw [List.length_append, List.length_map]; omega), if_neg hz, if_neg hz, List.length_append, List.length_map, hol]
        exact Ev.now _

theorem sum_small {l c nR nL : Nat} (h : l + c ≤ 63) (h1 : nR ≤ 128) (h2 : nL ≤ 128) : 1 + c + nR + nL ≤ 500 := by omega
theorem toNat_small (u : Nat) (h : u ≤ 500) : (u : Int).toNat ≤ 17592186044416 := by
  rw [Int.toNat_natCast]
  exact Nat.le_trans h (by decide)
theorem two_small (x : S46) (l : List S46) (h : l.length = 0 := by rfl) : l.length + [x].length < 8796093022208 := by
  rw [h]
  exact (by decide : 0 + 1 < 8796093022208)
/-- Ahead of the siblings. -/
theorem head_of {s c l i q B E nR nL : Nat} (hs : s < 18446744073709551616) (hi : i < 18446744073709551616) (hx : i ^^^ (s / 2 ^ l) < 18446744073709551616) (hN : s / 2 ^ l < 18446744073709551616) (hc : Lib.bitLen (i ^^^ (s / 2 ^ l)) = c + 1) (hlc : l + c ≤ 63)
    (hiq : i / 2 ^ c = q) (hq : q < 18446744073709551615) (hB : q * 2 ^ (l + c) = B) (hE : (q + 1) * 2 ^ (l + c) = E) (hB64 : B < 18446744073709551616) (hE64 : E < 18446744073709551616)
    (hR : compact_RangeSize.f (E : Int) (s : Int) = some (nR : Int)) (hL : compact_RangeSize.f 0 (B : Int) = some (nL : Int)) (hnR : nR ≤ 128) (hnL : nL ≤ 128) (k : Nat) :
    proof_nodes.f k (i : Int) (l : Int) (s : Int) = proof_nodes.l0 k (s : Int) (B : Int) (E : Int) (nL : Int) (nR : Int) [mk46 (l, i)] ((l + c : Nat) : Int) (q : Int) (l : Int) (i : Int) := by
  unfold proof_nodes.f
  rw [if_pos (by omega)]
  have hsh : shr .u64 (s : Int) (l : Int) = ((s / 2 ^ l : Nat) : Int) := shr_u64 s l rfl rfl hs
  rw [hsh, bits_xor_u64_nat _ _ hi hN]
  have hlen : bits_Len64.f (((i ^^^ (s / 2 ^ l) : Nat)) : Int) = some ((c + 1 : Nat) : Int) := by
    unfold bits_Len64.f
    rw [if_pos (by omega), if_pos (by omega), Int.toNat_natCast, hc]
  rw [hlen, Option.bind_some]
  have e1 : wrap64 (((c + 1 : Nat) : Int) - 1) = (c : Int) := by rw [w64 (by omega) (by omega)]; omega
  have e2 : IntKind.u64.wrap ((l : Int) + IntKind.u64.wrap (c : Int)) = ((l + c : Nat) : Int) := by rw [wu64 (n := (c : Int)) (by omega) (by omega), wu64 (by omega) (by omega)]; omega
  have e3 : shr .u64 (i : Int) (c : Int) = (q : Int) := by rw [← hiq]; exact shr_u64 i c rfl rfl hi
  rw [e1, if_pos (by omega), e2, e3]
  rw [show compact_NewNodeID.f ((l + c : Nat) : Int) (q : Int) = some (((l + c : Nat) : Int), (q : Int)) from rfl, Option.bind_some]
  dsimp only
  unfold compact_NodeID_Coverage.f
  rw [if_pos (by omega)]
  have e4 : IntKind.u64.wrap ((q : Int) + 1) = ((q + 1 : Nat) : Int) := by rw [wu64 (by omega) (by omega)]; omega
  have e5 : shl .u64 (q : Int) ((l + c : Nat) : Int) = (B : Int) := by rw [← hB]; exact shl_u64 _ (l + c) rfl rfl (by rw [hB]; exact hB64) (by omega)
  have e6 : shl .u64 ((q + 1 : Nat) : Int) ((l + c : Nat) : Int) = (E : Int) := by rw [← hE]; exact shl_u64 _ (l + c) rfl rfl (by rw [hE]; exact hE64) (by omega)
  rw [e4, e5, e6, Option.bind_some]
  dsimp only
  rw [hL, Option.bind_some, hR, Option.bind_some]
  rw [show compact_NewNodeID.f (l : Int) (i : Int) = some ((l : Int), (i : Int)) from rfl, Option.bind_some]
  dsimp only
  have e7 : wrap64 ((wrap64 ((wrap64 (1 + (c : Int))) + (nR : Int))) + (nL : Int)) = ((1 + c + nR + nL : Nat) : Int) := by
    rw [w64 (n := 1 + (c : Int)) (by omega) (by omega), w64 (n := 1 + (c : Int) + _) (by omega) (by omega), w64 (by omega) (by omega)]; omega
  rw [e7]
  have hu : 1 + c + nR + nL ≤ 500 := sum_small hlc hnR hnL
  generalize 1 + c + nR + nL = u at hu
  have hu1 : (0 : Int) ≤ (u : Int) := Int.natCast_nonneg u
  rw [if_pos hu1, if_pos (toNat_small u hu), Option.bind_some, Option.bind_some, if_pos (two_small _ [])]
  rfl

theorem nodes_path {i l s : Nat} (hl : l ≤ 63) (hs : s < 18446744073709551616) (hi : i < s / 2 ^ l) : ∃ c Rt Lf, Path i l s c Rt Lf ∧ Lib.bitLen (i ^^^ (s / 2 ^ l)) = c + 1 ∧
    Ev (fun k => proof_nodes.f k (i : Int) (l : Int) (s : Int)) (answer c l i (i / 2 ^ c) Rt Lf) := by
  obtain ⟨c, hc, hx, heven, htop, hlvl⟩ := path_facts hl hs hi
  have hN : s / 2 ^ l ≤ s := Nat.div_le_self _ _
  have hP : 0 < 2 ^ (l + c) := Nat.two_pow_pos _
  have hend : (i / 2 ^ c + 1) * 2 ^ (l + c) ≤ s := by
    rw [← htop]
    exact Nat.div_mul_le_self _ _
  have hbeg : i / 2 ^ c * 2 ^ (l + c) ≤ s := Nat.le_trans (Nat.mul_le_mul_right _ (by omega)) hend
  obtain ⟨Rt, hRt, hRl, hRs, hRr⟩ := range_of _ s hend hs
  obtain ⟨Lf, hLf, hLl, hLs, hLr⟩ := range_of 0 (i / 2 ^ c * 2 ^ (l + c)) (Nat.zero_le _) (Nat.lt_of_le_of_lt hbeg hs)
  have hic : i / 2 ^ c ≤ i := Nat.div_le_self _ _
  have hq : i / 2 ^ c < 18446744073709551615 := Nat.lt_of_le_of_lt hic (by omega)
  refine ⟨c, Rt, Lf, ⟨heven, htop, hlvl, hRt, hLf, hRl, hLl⟩, hc, ?_⟩
  have hfin := fin_of (c := c) (l := l) (i := i) heven hq (by omega) hRl hLl hRr hLr
  have hloop := sibs_of (s : Int) ((i / 2 ^ c * 2 ^ (l + c) : Nat) : Int) (((i / 2 ^ c + 1) * 2 ^ (l + c) : Nat) : Int) ((Lf.length : Nat) : Int) ((Rt.length : Nat) : Int) ((l + c : Nat) : Int) ((i / 2 ^ c : Nat) : Int) _ c l i [mk46 (l, i)] rfl (by omega) (by omega) (by simp; omega) hfin
  exact Ev.congr (fun k => head_of hs (by omega) hx (Nat.lt_of_le_of_lt hN hs) hc hlvl rfl hq rfl rfl (Nat.lt_of_le_of_lt hbeg hs) (Nat.lt_of_le_of_lt hend hs) hRs hLs hRl hLl k) hloop
end Go.Proofs.YtmcelgfekffinaaDoor.Pure
