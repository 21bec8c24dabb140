/- What the reference says of the proof between two logs, as lists of nodes. -/
import Derived.Test.YtmcelgfekffinaaDoorQcNod2
import Derived.Test.YtmcelgfekffinaaDoorPa
import Derived.Test.YtmcelgfekffinaaDoorQcx6
import Derived.Test.YtmcelgfekffinaaDoorQcx7
import Derived.Test.YtmcelgfekffinaaDoorQcx8
import Derived.Test.YtmcelgfekffinaaDoorQcx9
import Derived.Test.YtmcelgfekffinaaDoorQcx10
import Derived.Test.YtmcelgfekffinaaDoorQcPP
namespace Go.Proofs.YtmcelgfekffinaaDoor.Pure
open Go.RowKit Go.Proofs.YtmcelgfekffinaaDoor.Qc Go.Proofs.YtmcelgfekffinaaDoorW.PrintWords Go.Proofs.YtmcelgfekffinaaDoorW.PrintLast
open Go.Proofs.YtmcelgfekffinaaDoor.M (IsN tp tp_lt tp_le tp_uniq partsN PSt PStep PSteps sibs sibs_length)

theorem split_from (n : Nat) (hn2 : 2 ≤ n) (hn : n < 18446744073709551616) : ∀ (d j : Nat), j + d = tp n → Ev (fun k => spec_split.l0 k (n : Int) ((2 ^ j : Nat) : Int)) ((2 ^ tp n : Nat) : Int)
  | 0, j, hj => by
    obtain rfl : j = tp n := by omega
    have h1 := tp_lt hn2
    have h2 := tp_le hn2
    rw [Nat.pow_succ] at h2
    refine Ev.step (f := fun _ => some ((2 ^ tp n : Nat) : Int)) (fun k => ?_) (Ev.now _)
    simp only [spec_split.l0]
    rw [if_neg]
    rw [wu64 (by omega) (by omega)]
    omega
  | d + 1, j, hj => by
    have h1 := tp_lt hn2
    have h3 : 2 ^ (j + 1) ≤ 2 ^ tp n := Nat.pow_le_pow_right (by omega) (by omega)
    rw [Nat.pow_succ] at h3
    refine Ev.step (fun k => ?_) (split_from n hn2 hn d (j + 1) (by omega))
    simp only [spec_split.l0]
    rw [if_pos (by rw [wu64 (by omega) (by omega)]; omega)]
    have e1 : IntKind.u64.wrap (((2 ^ j : Nat) : Int) * 2) = ((2 ^ (j + 1) : Nat) : Int) := by
      rw [wu64 (by omega) (by omega), Nat.pow_succ]; omega
    rw [e1]
theorem split_ev (n : Nat) (hn2 : 2 ≤ n) (hn : n < 18446744073709551616) : Ev (fun k => spec_split.f k (n : Int)) ((2 ^ tp n : Nat) : Int) := by
  have h := split_from n hn2 hn (tp n) 0 (by omega)
  exact h

theorem nodeOf_from (b t : Nat) (_ht : t ≤ 63) (he : b + 2 ^ t < 18446744073709551616) : ∀ (d j : Nat), j + d = t → Ev (fun k => spec_NodeOf.l0 k (b : Int) ((b + 2 ^ t : Nat) : Int) (j : Int) 0) ((t : Int), ((b / 2 ^ t : Nat) : Int))
  | d, j, hj => by
    have h0 := Nat.two_pow_pos t
    have e1 : IntKind.u64.wrap (((b + 2 ^ t : Nat) : Int) - (b : Int)) = ((2 ^ t : Nat) : Int) := by rw [wu64 (by omega) (by omega)]; omega
    have e2 : shr .u64 ((2 ^ t : Nat) : Int) (j : Int) = ((2 ^ t / 2 ^ j : Nat) : Int) := shr_u64 _ j rfl rfl (by omega)
    have e3 : 2 ^ t / 2 ^ j = 2 ^ (t - j) := Nat.pow_div (by omega) (by omega)
    match d with
    | 0 =>
      obtain rfl : j = t := by omega
      refine Ev.step (f := fun _ => some ((j : Int), ((b / 2 ^ j : Nat) : Int))) (fun k => ?_) (Ev.now _)
      simp only [spec_NodeOf.l0]
      rw [if_pos (by omega), e1, e2, e3, Nat.sub_self, if_neg (by simp), shr_u64 b j rfl rfl (by omega)]
    | d + 1 =>
      have e4 : 2 ≤ 2 ^ (t - j) := by
        have : 2 ^ 1 ≤ 2 ^ (t - j) := Nat.pow_le_pow_right (by omega) (by omega)
        omega
      refine Ev.step (fun k => ?_) (nodeOf_from b t _ht he d (j + 1) (by omega))
      simp only [spec_NodeOf.l0]
      rw [if_pos (by omega), e1, e2, e3, if_pos (by omega)]
      have e5 : IntKind.u64.wrap ((j : Int) + 1) = ((j + 1 : Nat) : Int) := by rw [wu64 (by omega) (by omega)]; omega
      rw [e5]
theorem nodeOf_ev (b t : Nat) (ht : t ≤ 63) (he : b + 2 ^ t < 18446744073709551616) : Ev (fun k => spec_NodeOf.f k (b : Int) ((b + 2 ^ t : Nat) : Int)) ((t : Int), ((b / 2 ^ t : Nat) : Int)) := nodeOf_from b t ht he t 0 (by omega)

def mkP (x : Nat × Nat) : S29 := ⟨(x.1 : Int), (x.2 : Int)⟩
theorem rdP (pre : List (Nat × Nat)) (x : Nat × Nat) (post : List (Nat × Nat)) : rd_T29 ((pre ++ x :: post).map mkP) (pre.length : Int) = mkP x := by
  unfold rd_T29
  rw [Int.toNat_natCast, List.getD_eq_getElem?_getD, List.getElem?_map, List.getElem?_append_right (Nat.le_refl _), Nat.sub_self]
  rfl

theorem partsN_length : ∀ (F y x b e : Nat), (partsN F y x b e).length ≤ F
  | 0, _, _, _, _ => Nat.le_refl _
  | F + 1, y, x, b, e => by
    rw [partsN]
    split
    · exact Nat.zero_le _
    · split
      · have := partsN_length F y x b (b + 2 ^ tp (e - b))
        simp; omega
      · have := partsN_length F y x (b + 2 ^ tp (e - b)) e
        simp; omega

theorem odd_one {a v l t : Nat} (h : (2 * a + 1) * 2 ^ l = (2 * v + 1) * 2 ^ t) : l = t := by
  have key : ∀ {a v l t : Nat}, l < t → (2 * a + 1) * 2 ^ l = (2 * v + 1) * 2 ^ t → False := by
    intro a v l t hlt h
    obtain ⟨d, rfl⟩ : ∃ d, t = l + 1 + d := ⟨t - l - 1, by omega⟩
    rw [show l + 1 + d = 1 + d + l by omega, Nat.pow_add, ← Nat.mul_assoc] at h
    have h2 := Nat.eq_of_mul_eq_mul_right (Nat.two_pow_pos l) h
    rw [Nat.add_comm 1 d, Nat.pow_succ, ← Nat.mul_assoc] at h2
    omega
  rcases Nat.lt_trichotomy l t with h1 | h1 | h1
  · exact (key h1 h).elim
  · exact h1
  · exact (key h1 h.symm).elim

/-- The parts that the reference tells. -/
theorem proofIn_ev (l i : Nat) (hi : i % 2 = 0) : ∀ (F T b e : Nat), T ≤ F → F ≤ 64 → 2 ^ T ∣ b → e - b ≤ 2 ^ T → b ≤ i * 2 ^ l → (i + 1) * 2 ^ l ≤ e → e < 18446744073709551616 → ((i + 1) * 2 ^ l = e → b = i * 2 ^ l) → ∀ w : Bool,
    Ev (fun k => spec_proofIn.f k (((i + 1) * 2 ^ l : Nat) : Int) (b : Int) (e : Int) w) ((if w = true ∧ b = i * 2 ^ l then [] else [mkP (i * 2 ^ l, (i + 1) * 2 ^ l)]) ++ (partsN F (i * 2 ^ l) ((i + 1) * 2 ^ l) b e).map mkP) := by
  have hP := Nat.two_pow_pos l
  have e1 : (i + 1) * 2 ^ l = i * 2 ^ l + 2 ^ l := by rw [Nat.add_mul, Nat.one_mul]
  obtain ⟨y, hy⟩ : ∃ y, y = i * 2 ^ l := ⟨_, rfl⟩
  obtain ⟨x, hx⟩ : ∃ x, x = (i + 1) * 2 ^ l := ⟨_, rfl⟩
  rw [← hy, ← hx]
  rw [← hy, ← hx] at e1
  have hbase : ∀ (F b e : Nat), b = y → e = x → ∀ w : Bool, Ev (fun k => spec_proofIn.f k (x : Int) (b : Int) (e : Int) w) ((if w = true ∧ b = y then [] else [mkP (y, x)]) ++ (partsN F y x b e).map mkP) := by
    rintro F b e rfl rfl w
    have hp : partsN F b e b e = [] := by
      cases F with
      | zero => rfl
      | succ F => rw [partsN, if_pos ⟨rfl, rfl⟩]
    rw [hp]
    refine Ev.step (f := fun _ => some ((if w = true ∧ b = b then [] else [mkP (b, e)]) ++ ([] : List (Nat × Nat)).map mkP)) (fun k => ?_) (Ev.now _)
    simp only [spec_proofIn.f]
    cases w
    · simp [mkP]
    · simp
  intro F
  induction F with
  | zero =>
    intro T b e hT _ hd hn hb he h64 hJ w
    obtain rfl : T = 0 := by omega
    have hn1 : e - b ≤ 1 := by simpa using hn
    exact hbase 0 b e (by omega) (by omega) w
  | succ F ih =>
    intro T b e hT hF hd hn hb he h64 hJ w
    by_cases hbe : b = y ∧ e = x
    · exact hbase (F + 1) b e hbe.1 hbe.2 w
    have hxe : x ≠ e := fun h => hbe ⟨hJ h, h.symm⟩
    have hn2 : 2 ≤ e - b := by omega
    have g1 := tp_lt hn2
    have g2 := tp_le hn2
    have hsp := split_ev (e - b) hn2 (by omega)
    have hpart : partsN (F + 1) y x b e = if x ≤ b + 2 ^ tp (e - b) then partsN F y x b (b + 2 ^ tp (e - b)) ++ [(b + 2 ^ tp (e - b), e)] else partsN F y x (b + 2 ^ tp (e - b)) e ++ [(b, b + 2 ^ tp (e - b))] := by
      rw [partsN, if_neg hbe]
    rw [hpart]
    clear hpart
    generalize tp (e - b) = t at *
    have htT : t < T := by
      have : 2 ^ t < 2 ^ T := Nat.lt_of_lt_of_le g1 hn
      exact (Nat.pow_lt_pow_iff_right (by omega)).1 this
    have hb1 : 2 ^ (t + 1) ∣ b := Nat.dvd_trans (Nat.pow_dvd_pow 2 htT) hd
    have hb0 : 2 ^ t ∣ b := Nat.dvd_trans (Nat.pow_dvd_pow 2 (Nat.le_succ t)) hb1
    have ht0 := Nat.two_pow_pos t
    have w1 : IntKind.u64.wrap ((e : Int) - (b : Int)) = ((e - b : Nat) : Int) := by rw [wu64 (by omega) (by omega)]; omega
    have w2 : IntKind.u64.wrap ((b : Int) + ((2 ^ t : Nat) : Int)) = ((b + 2 ^ t : Nat) : Int) := by rw [wu64 (by omega) (by omega)]; omega
    have hkd : 2 ^ t ∣ b + 2 ^ t := Nat.dvd_add hb0 (Nat.dvd_refl _)
    have hne : ¬ (x : Int) = (e : Int) := by omega
    by_cases hxk : x ≤ b + 2 ^ t
    · rw [if_pos hxk]
      have hJ' : x = b + 2 ^ t → b = y := by
        intro h
        obtain ⟨v, hv⟩ := hb1
        obtain ⟨a, ha⟩ : ∃ a, i = 2 * a := ⟨i / 2, by omega⟩
        have h2 : (2 * a + 1) * 2 ^ l = (2 * v + 1) * 2 ^ t := by
          rw [← ha, ← hx, h, hv, Nat.pow_succ, Nat.add_mul, Nat.one_mul, Nat.mul_comm (2 ^ t) 2, Nat.mul_right_comm]
        have h3 := odd_one h2
        rw [h3] at e1
        omega
      have h1 := ih t b (b + 2 ^ t) (by omega) (by omega) hb0 (by omega) hb hxk (by omega) hJ' w
      have hl : ((if w = true ∧ b = y then [] else [mkP (y, x)]) ++ (partsN F y x b (b + 2 ^ t)).map mkP).length + [(⟨((b + 2 ^ t : Nat) : Int), (e : Int)⟩ : S29)].length < 8796093022208 := by
        have := partsN_length F y x b (b + 2 ^ t)
        have h5 : (if w = true ∧ b = y then [] else [mkP (y, x)]).length ≤ 1 := by split <;> simp
        rw [List.length_append, List.length_map, List.length_singleton]
        omega
      have h2 : Ev (fun k => (spec_split.f k ((e - b : Nat) : Int)).bind fun t371 => (if (x : Int) ≤ (IntKind.u64.wrap ((b : Int) + t371)) then ((spec_proofIn.f k (x : Int) (b : Int) (IntKind.u64.wrap ((b : Int) + t371)) w).bind fun t372 => ((some (([(⟨IntKind.u64.wrap ((b : Int) + t371), (e : Int)⟩ : S29)] : List (S29)) : List (S29))).bind fun y375 => (if t372.length + y375.length < 8796093022208 then (some (t372 ++ y375)) else (none)))) else ((spec_proofIn.f k (x : Int) (IntKind.u64.wrap ((b : Int) + t371)) (e : Int) false).bind fun t381 => ((some (([(⟨(b : Int), IntKind.u64.wrap ((b : Int) + t371)⟩ : S29)] : List (S29)) : List (S29))).bind fun y384 => (if t381.length + y384.length < 8796093022208 then (some (t381 ++ y384)) else (none))))))
          ((if w = true ∧ b = y then [] else [mkP (y, x)]) ++ (partsN F y x b (b + 2 ^ t) ++ [(b + 2 ^ t, e)]).map mkP) := by
        refine Ev.bind hsp ?_
        rw [w2]
        refine Ev.congr (fun _ => if_pos (show (x : Int) ≤ ((b + 2 ^ t : Nat) : Int) by omega)) ?_
        refine Ev.bind h1 ?_
        rw [Option.bind_some, if_pos hl, List.map_append, ← List.append_assoc]
        exact Ev.now _
      refine Ev.step (fun k => ?_) h2
      simp only [spec_proofIn.f]
      rw [if_neg hne, w1]
    · rw [if_neg hxk]
      have hyk : b + 2 ^ t ≤ y := by
        have hlt : l ≤ t := by
          rcases Nat.lt_or_ge t l with h | h
          · have h6 : 2 ^ (t + 1) ≤ 2 ^ l := Nat.pow_le_pow_right (by omega) h
            omega
          · exact h
        obtain ⟨v, hv⟩ := Nat.dvd_trans (Nat.pow_dvd_pow 2 hlt) hkd
        rw [hv, Nat.mul_comm (2 ^ l) v] at hxk ⊢
        rw [hx] at hxk
        have h3 : v < i + 1 := by
          rcases Nat.lt_or_ge v (i + 1) with h | h
          · exact h
          · exact absurd (Nat.mul_le_mul_right (2 ^ l) h) hxk
        rw [hy]
        exact Nat.mul_le_mul_right _ (by omega)
      rw [Nat.pow_succ] at g2
      have h1 := ih t (b + 2 ^ t) e (by omega) (by omega) hkd (by omega) hyk he h64 (fun h => absurd h hxe) false
      rw [if_neg (by simp)] at h1
      have hl : ([mkP (y, x)] ++ (partsN F y x (b + 2 ^ t) e).map mkP).length + [(⟨(b : Int), ((b + 2 ^ t : Nat) : Int)⟩ : S29)].length < 8796093022208 := by
        have := partsN_length F y x (b + 2 ^ t) e
        rw [List.length_append, List.length_map, List.length_singleton, List.length_singleton]
        omega
      have h2 : Ev (fun k => (spec_split.f k ((e - b : Nat) : Int)).bind fun t371 => (if (x : Int) ≤ (IntKind.u64.wrap ((b : Int) + t371)) then ((spec_proofIn.f k (x : Int) (b : Int) (IntKind.u64.wrap ((b : Int) + t371)) w).bind fun t372 => ((some (([(⟨IntKind.u64.wrap ((b : Int) + t371), (e : Int)⟩ : S29)] : List (S29)) : List (S29))).bind fun y375 => (if t372.length + y375.length < 8796093022208 then (some (t372 ++ y375)) else (none)))) else ((spec_proofIn.f k (x : Int) (IntKind.u64.wrap ((b : Int) + t371)) (e : Int) false).bind fun t381 => ((some (([(⟨(b : Int), IntKind.u64.wrap ((b : Int) + t371)⟩ : S29)] : List (S29)) : List (S29))).bind fun y384 => (if t381.length + y384.length < 8796093022208 then (some (t381 ++ y384)) else (none))))))
          ((if w = true ∧ b = y then [] else [mkP (y, x)]) ++ (partsN F y x (b + 2 ^ t) e ++ [(b, b + 2 ^ t)]).map mkP) := by
        refine Ev.bind hsp ?_
        rw [w2]
        refine Ev.congr (fun _ => if_neg (show ¬ (x : Int) ≤ ((b + 2 ^ t : Nat) : Int) by omega)) ?_
        refine Ev.bind h1 ?_
        rw [Option.bind_some, if_pos hl, if_neg (by omega), List.map_append, ← List.append_assoc]
        exact Ev.now _
      refine Ev.step (fun k => ?_) h2
      simp only [spec_proofIn.f]
      rw [if_neg hne, w1]

/-- A loop's state of the reference's proofOf. -/
def pl (k : Nat) (L : List (Nat × Nat)) (j : Nat) (s : PSt) (v x : Int) : Option ((List (S27)) × Int × Int × Int × Int) :=
  spec_proofOf.l0 k (L.map mkP) ((L.length : Nat) : Int) (j : Int) (s.p0 : Int) (s.p1 : Int) (s.ids.map mk27) v x (s.B : Int) (s.E : Int)

theorem l1_run (L : List (Nat × Nat)) (p0 p1 q0 q1 v x B E : Int) (j : Int) (r : (List (S27)) × Int × Int × Int × Int) : ∀ (n : Nat) (W Z : List (Nat × Nat)) (out : List S27), W.length = n → n ≤ 1000 → out.length + n < 1000000 →
    Ev (fun k => spec_proofOf.l0 k (L.map mkP) ((L.length : Nat) : Int) (wrap64 (j + 1)) p0 q1 (out ++ (W.reverse).map mk27) v x B E) r →
    Ev (fun k => spec_proofOf.l1 k ((W ++ Z).map mk27) ((n : Int) - 1) (L.map mkP) ((L.length : Nat) : Int) j p0 p1 out v x B E q0 q1) r
  | 0, W, Z, out, hW, _, _, h => by
    obtain rfl := List.eq_nil_of_length_eq_zero hW
    rw [List.reverse_nil, List.map_nil, List.append_nil] at h
    refine Ev.step (fun k => ?_) h
    simp only [spec_proofOf.l1]
    rw [if_neg (by omega)]
  | n + 1, W, Z, out, hW, hn, ho, h => by
    have hne : W ≠ [] := by
      rintro rfl
      simp at hW
    obtain ⟨V, y, rfl⟩ : ∃ V y, W = V ++ [y] := ⟨W.dropLast, W.getLast hne, (List.dropLast_concat_getLast hne).symm⟩
    have hV : V.length = n := by simpa using hW
    have h1 := l1_run L p0 p1 q0 q1 v x B E j r n V (y :: Z) (out ++ [mk27 y]) hV (by omega) (by rw [List.length_append, List.length_singleton]; omega) (by
      rw [List.reverse_append, List.map_append] at h
      rw [List.append_assoc]
      exact h)
    have e0 : V ++ y :: Z = V ++ [y] ++ Z := by simp
    rw [e0] at h1
    refine Ev.step (fun k => ?_) h1
    simp only [spec_proofOf.l1]
    have hrd : rd_T27 ((V ++ [y] ++ Z).map mk27) (((n + 1 : Nat) : Int) - 1) = mk27 y := by
      rw [← e0, show (((n + 1 : Nat) : Int) - 1) = ((V.length : Nat) : Int) by omega]
      exact rd27 V y Z
    have hl : ((V ++ [y] ++ Z).map mk27).length = n + 1 + Z.length := by simp [hV]; omega
    rw [hrd, if_pos (by omega), if_pos (by omega), if_pos (by rw [hl]; omega), if_pos (by omega), w64 (n := ((n + 1 : Nat) : Int) - 1 - 1) (by omega) (by omega), show (((n + 1 : Nat) : Int) - 1 - 1) = (n : Int) - 1 by omega]

/-- One part more. -/
theorem step_run {s s' : PSt} {q : Nat × Nat} (hst : PStep s q s') (hp : s.p0 < s.p1) (h64 : s'.p1 < 18446744073709551616) (hlen : s'.ids.length < 500) (pre post : List (Nat × Nat)) (hL : (pre ++ q :: post).length < 500) (v x : Int) (r : (List (S27)) × Int × Int × Int × Int)
    (h : Ev (fun k => pl k (pre ++ q :: post) (pre.length + 1) s' v x) r) : Ev (fun k => pl k (pre ++ q :: post) pre.length s v x) r := by
  have hrd := rdP pre q post
  have hll : (pre ++ q :: post).length = pre.length + 1 + post.length := by simp; omega
  have hc1 : ((pre.length : Nat) : Int) < (((pre ++ q :: post).length : Nat) : Int) := by omega
  have hc2 : (0 : Int) ≤ ((pre.length : Nat) : Int) := by omega
  have hc3 : ((pre.length : Nat) : Int) < ((((pre ++ q :: post).map mkP).length : Nat) : Int) := by rw [List.length_map]; omega
  have hw : wrap64 (((pre.length : Nat) : Int) + 1) = ((pre.length + 1 : Nat) : Int) := by rw [w64 (by omega) (by omega)]; omega
  have unf : ∀ k, pl (k + 1) (pre ++ q :: post) pre.length s v x = _ := fun k => by
    unfold pl
    simp only [spec_proofOf.l0]
    rw [if_pos hc1, if_pos hc2, if_pos hc3, hrd]
  have hm0 : (mkP q).f0 = (q.1 : Int) := rfl
  have hm1 : (mkP q).f1 = (q.2 : Int) := rfl
  have hw2 : ∀ {k : Nat}, 2 ^ k < 18446744073709551616 → k ≤ 63 := by
    intro k hk
    have : 2 ^ k < 2 ^ 64 := hk
    have := (Nat.pow_lt_pow_iff_right (a := 2) (by omega)).1 this
    omega
  cases hst with
  | left e1 hd =>
    rename_i b t
    simp only at h64 hlen h hm0 hm1
    have hsl : s.ids.length < 8796093022208 := by rw [List.length_append] at hlen; omega
    have hno := nodeOf_ev b t (hw2 (by omega)) (by omega)
    refine Ev.step (fun k => (unf k).trans ?_) (Ev.bind hno (f := fun k bt => spec_proofOf.l0 k ((pre ++ (b, b + 2 ^ t) :: post).map mkP) (((pre ++ (b, b + 2 ^ t) :: post).length : Nat) : Int) ((pre.length + 1 : Nat) : Int) (b : Int) (s.p1 : Int) (s.ids.map mk27 ++ [(⟨bt.1, bt.2⟩ : S27)]) v x (s.B : Int) (s.E : Int)) ?_)
    · rw [hm0, hm1, if_pos (by rw [e1]), hw]
      simp only [List.length_map, if_pos hsl]
    · unfold pl at h
      simp only [List.map_append, List.map_cons, List.map_nil] at h ⊢
      exact h
  | same e1 hd =>
    rename_i t
    simp only at h64 hlen h hm0 hm1
    have hsl : s.ids.length < 8796093022208 := by rw [List.length_append] at hlen; omega
    have hno := nodeOf_ev s.p1 t (hw2 (by omega)) (by omega)
    refine Ev.step (fun k => (unf k).trans ?_) (Ev.bind hno (f := fun k bt => spec_proofOf.l0 k ((pre ++ (s.p1, s.p1 + 2 ^ t) :: post).map mkP) (((pre ++ (s.p1, s.p1 + 2 ^ t) :: post).length : Nat) : Int) ((pre.length + 1 : Nat) : Int) (s.p0 : Int) ((s.p1 + 2 ^ t : Nat) : Int) (s.ids.map mk27 ++ [(⟨bt.1, bt.2⟩ : S27)]) v x (s.B : Int) (s.E : Int)) ?_)
    · have e2 : IntKind.u64.wrap (((s.p1 + 2 ^ t : Nat) : Int) - (s.p1 : Int)) = IntKind.u64.wrap ((s.p1 : Int) - (s.p0 : Int)) := by
        congr 1
        omega
      rw [hm0, hm1, if_neg (by omega), if_pos e2, hw]
      simp only [List.length_map, if_pos hsl]
    · unfold pl at h
      simp only [List.map_append, List.map_cons, List.map_nil] at h ⊢
      exact h
  | short e0 e1 e2 hW =>
    rename_i e W
    simp only at h64 hlen h hm0 hm1
    rw [List.length_append, List.length_reverse] at hlen
    have hno := specNodes_ev s.p1 e (by omega) h64 hW
    refine Ev.step (fun k => (unf k).trans ?_) (Ev.bind hno (f := fun k t421 => spec_proofOf.l1 k t421 (wrap64 ((t421.length : Int) - 1)) ((pre ++ (s.p1, e) :: post).map mkP) (((pre ++ (s.p1, e) :: post).length : Nat) : Int) ((pre.length : Nat) : Int) (s.p0 : Int) (s.p1 : Int) (s.ids.map mk27) v x ((s.ids.length : Nat) : Int) (wrap64 (((s.ids.length : Nat) : Int) + (t421.length : Int))) (s.p1 : Int) (e : Int)) ?_)
    · have e3 : ¬ IntKind.u64.wrap ((e : Int) - (s.p1 : Int)) = IntKind.u64.wrap ((s.p1 : Int) - (s.p0 : Int)) := by
        rw [wu64 (by omega) (by omega), wu64 (by omega) (by omega)]
        omega
      rw [hm0, hm1, if_neg (by omega), if_neg e3]
      simp only [List.length_map]
    · have e4 : wrap64 (((W.map mk27).length : Int) - 1) = ((W.length : Nat) : Int) - 1 := by rw [List.length_map, w64 (by omega) (by omega)]
      have e5 : wrap64 (((s.ids.length : Nat) : Int) + ((W.map mk27).length : Int)) = ((s.ids.length + W.length : Nat) : Int) := by rw [List.length_map, w64 (by omega) (by omega)]; omega
      rw [e4, e5]
      have h2 := l1_run (pre ++ (s.p1, e) :: post) (s.p0 : Int) (s.p1 : Int) (s.p1 : Int) (e : Int) v x ((s.ids.length : Nat) : Int) ((s.ids.length + W.length : Nat) : Int) ((pre.length : Nat) : Int) r W.length W [] (s.ids.map mk27) rfl (Nat.le_trans (Nat.le_add_left _ _) (Nat.le_trans (Nat.le_of_lt hlen) (by decide))) (by rw [List.length_map]; exact Nat.lt_trans hlen (by decide)) (by
        rw [hw]
        dsimp only [pl] at h
        rw [List.map_append (f := mk27)] at h
        exact h)
      rw [List.append_nil] at h2
      exact h2

theorem step_grows {s s' : PSt} {q : Nat × Nat} (h : PStep s q s') (hp : s.p0 < s.p1) : s'.p0 < s'.p1 ∧ s.p1 ≤ s'.p1 ∧ s.ids.length ≤ s'.ids.length := by
  cases h with
  | left e1 hd => exact ⟨by simp only; have := Nat.le_add_right s.p0 1; omega, Nat.le_refl _, by simp⟩
  | same e1 hd => exact ⟨by simp only; omega, by simp, by simp⟩
  | short e0 e1 e2 hW => exact ⟨by simp only; omega, by simp only; omega, by simp⟩
theorem steps_grow {s s' : PSt} {P : List (Nat × Nat)} (h : PSteps s P s') (hp : s.p0 < s.p1) : s'.p0 < s'.p1 ∧ s.p1 ≤ s'.p1 ∧ s.ids.length ≤ s'.ids.length := by
  induction h with
  | nil => exact ⟨hp, Nat.le_refl _, Nat.le_refl _⟩
  | snoc _ h2 ih =>
    have h3 := step_grows h2 ih.1
    exact ⟨h3.1, Nat.le_trans ih.2.1 h3.2.1, Nat.le_trans ih.2.2 h3.2.2⟩

theorem steps_run {s s' : PSt} {P : List (Nat × Nat)} (hst : PSteps s P s') (hp : s.p0 < s.p1) (h64 : s'.p1 < 18446744073709551616) (hlen : s'.ids.length < 500) (v x : Int) : ∀ (post : List (Nat × Nat)), (P ++ post).length < 500 → ∀ r,
    Ev (fun k => pl k (P ++ post) P.length s' v x) r → Ev (fun k => pl k (P ++ post) 0 s v x) r := by
  induction hst with
  | nil => intro post _ r h; exact h
  | snoc h1 h2 ih =>
    rename_i s1 s2 P q
    intro post hL r h
    have g1 := steps_grow h1 hp
    have g2 := step_grows h2 g1.1
    rw [List.append_assoc] at hL h ⊢
    refine ih (by omega) (by omega) (q :: post) hL r ?_
    refine step_run h2 g1.1 h64 hlen P post hL v x r ?_
    rw [List.length_append] at h
    exact h

/-- All parts: the nodes, and where those are that make one hash. -/
theorem proofOf_ev {s s' : PSt} {P : List (Nat × Nat)} (hst : PSteps s P s') (hids : s.ids = []) (hB : s.B = 0) (hE : s.E = 0) (hp : s.p0 < s.p1) (h64 : s'.p1 < 18446744073709551616) (hlen : s'.ids.length < 500) (hP : P.length < 500) :
    Ev (fun k => spec_proofOf.f k (s.p0 : Int) (s.p1 : Int) (P.map mkP)) (s'.ids.map mk27, 0, 0, (s'.B : Int), (s'.E : Int)) := by
  have hend : Ev (fun k => pl k (P ++ []) P.length s' 0 0) (s'.ids.map mk27, 0, 0, (s'.B : Int), (s'.E : Int)) := by
    refine Ev.step (f := fun _ => some (s'.ids.map mk27, 0, 0, (s'.B : Int), (s'.E : Int))) (fun k => ?_) (Ev.now _)
    unfold pl
    simp only [spec_proofOf.l0]
    rw [if_neg (by rw [List.append_nil]; omega)]
  have h := steps_run hst hp h64 hlen 0 0 [] (by simpa using hP) _ hend
  rw [List.append_nil] at h
  refine Ev.congr (fun k => ?_) h
  unfold pl spec_proofOf.f
  rw [hids, hB, hE, List.length_map]
  rfl

theorem and_pred (a l : Nat) : ((2 * a + 1) * 2 ^ l) &&& ((2 * a + 1) * 2 ^ l - 1) = 2 * a * 2 ^ l := by
  have h0 := Nat.two_pow_pos l
  have e1 : (2 * a + 1) * 2 ^ l = 2 ^ l * (2 * a + 1) + 0 := by rw [Nat.mul_comm]; rfl
  have e2 : (2 * a + 1) * 2 ^ l - 1 = 2 ^ l * (2 * a) + (2 ^ l - 1) := by
    rw [Nat.add_mul, Nat.one_mul, Nat.mul_comm (2 ^ l)]
    omega
  have e3 : 2 * a * 2 ^ l = 2 ^ l * (2 * a) + 0 := by rw [Nat.mul_comm]; rfl
  rw [e2, e3]
  rw [e1]
  apply Nat.eq_of_testBit_eq
  intro j
  rw [Nat.testBit_and, Nat.testBit_two_pow_mul_add _ h0, Nat.testBit_two_pow_mul_add _ (show 2 ^ l - 1 < 2 ^ l by omega), Nat.testBit_two_pow_mul_add _ h0]
  by_cases hj : j < l
  · simp [hj]
  · rw [if_neg hj, if_neg hj, if_neg hj]
    generalize j - l = m
    cases m with
    | zero => simp
    | succ m =>
      rw [Nat.testBit_succ, Nat.testBit_succ, show (2 * a + 1) / 2 = a by omega, show 2 * a / 2 = a by omega, Bool.and_self]

theorem last_ev (a l : Nat) (h : (2 * a + 1) * 2 ^ l < 18446744073709551616) : spec_last.f (((2 * a + 1) * 2 ^ l : Nat) : Int) = some (((2 * a * 2 ^ l : Nat) : Int), (((2 * a + 1) * 2 ^ l : Nat) : Int)) := by
  have h0 : 0 < (2 * a + 1) * 2 ^ l := Nat.mul_pos (by omega) (Nat.two_pow_pos l)
  unfold spec_last.f
  have hp := and_pred a l
  generalize (2 * a + 1) * 2 ^ l = x at *
  have e1 : IntKind.u64.wrap ((x : Int) - 1) = ((x - 1 : Nat) : Int) := by rw [wu64 (by omega) (by omega)]; omega
  rw [e1, bits_and_u64_nat _ _ h (by omega), hp]

theorem fork_from (s : Nat) (hs : s < 18446744073709551616) (q : Nat) : ∀ (c l i : Nat), l + c ≤ 63 → i / 2 ^ c = q → q % 2 = 0 → s / 2 ^ (l + c) = q + 1 → i < 18446744073709551616 → Ev (fun k => spec_fork.l0 k (s : Int) (l : Int) (i : Int)) (((l + c : Nat) : Int), ((q + 1 : Nat) : Int))
  | 0, l, i, hl, hq, he, ht, hi => by
    rw [Nat.pow_zero, Nat.div_one] at hq
    subst hq
    rw [Nat.add_zero] at ht ⊢
    have e1 : shr .u64 (s : Int) (l : Int) = ((s / 2 ^ l : Nat) : Int) := shr_u64 s l rfl rfl hs
    refine Ev.step (f := fun _ => some ((l : Int), ((i + 1 : Nat) : Int))) (fun k => ?_) (Ev.now _)
    simp only [spec_fork.l0]
    rw [e1, ht, if_pos (by omega), if_pos (by omega)]
  | c + 1, l, i, hl, hq, he, ht, hi => by
    have e1 : shr .u64 (s : Int) (l : Int) = ((s / 2 ^ l : Nat) : Int) := shr_u64 s l rfl rfl hs
    have h1 : i / 2 / 2 ^ c = q := by rw [Nat.div_div_eq_div_mul, ← Nat.pow_succ']; exact hq
    have h2 : s / 2 ^ l / 2 / 2 ^ c = q + 1 := by
      rw [Nat.div_div_eq_div_mul, Nat.div_div_eq_div_mul, ← Nat.pow_succ', ← Nat.pow_add]
      exact ht
    have h3 : ¬ i / 2 = s / 2 ^ l / 2 := by
      intro h
      rw [h, h2] at h1
      omega
    refine Ev.step (fun k => ?_) (by
      have := fork_from s hs q c (l + 1) (i / 2) (by omega) h1 he (by rw [show l + 1 + c = l + (c + 1) by omega]; exact ht) (by omega)
      rw [show l + 1 + c = l + (c + 1) by omega] at this
      exact this)
    simp only [spec_fork.l0]
    generalize s / 2 ^ l = z at *
    rw [e1, if_pos (by omega), if_neg (by omega)]
    have e2 : IntKind.u64.wrap ((l : Int) + 1) = ((l + 1 : Nat) : Int) := by rw [wu64 (by omega) (by omega)]; omega
    have e3 : (i : Int) / 2 = ((i / 2 : Nat) : Int) := by omega
    rw [e2, e3]
theorem fork_ev {i l s c : Nat} {Rt Lf : List (Nat × Nat)} (hp : Path i l s c Rt Lf) (hs : s < 18446744073709551616) (hi : i < 18446744073709551616) : Ev (fun k => spec_fork.f k (l : Int) (i : Int) (s : Int)) (((l + c : Nat) : Int), ((i / 2 ^ c + 1 : Nat) : Int)) :=
  fork_from s hs _ c l i hp.lvl rfl hp.even hp.top hi
end Go.Proofs.YtmcelgfekffinaaDoor.Pure
