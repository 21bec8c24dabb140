/- FnInclusionOfRanges, all ways joined: plain. -/
import Derived.Test.YtfhcpniibiobgaaDoorJo
import Derived.Test.YtfhcpniibiobgaaDoorJs
import Derived.Test.YtfhcpniibiobgaaDoorJp
namespace Go.Proofs.YtfhcpniibiobgaaDoor.Pure
open Go.RowKit Go.Proofs.YtfhcpniibiobgaaDoorW.PrintWords Go.Proofs.YtfhcpniibiobgaaDoorW.PrintMore Go.Proofs.YtfhcpniibiobgaaDoorW.PrintLast
open Hs (CB CL)
open Go.Proofs.YtfhcpniibiobgaaDoor.M (IsN isN_uniq isN_ex isN_one sibs sibs_length pc vlen div_lo div_hi)
open Core (tot tot_append tot_mem)
open Qf (MGen ArOk rehG S52 S58 S108 S35)
theorem rsize_zero (e : Nat) (he : e < 18446744073709551616) {W : List (Nat × Nat)} (hW : IsN 0 e W) : W.length = pc 64 e := by
  obtain ⟨L, R, X, d, hf, hm⟩ := decompose_of 0 e (by omega) he
  have h0 := hm.zero rfl
  have h1 := hm.lo
  have h2 := hm.hi
  obtain rfl : R = e := by omega
  obtain rfl := isN_uniq hW (M.isN_cut (cut_of hm))
  rw [nodesN_len hm.d64 hm.r, M.rightN_pc R d R hm.d64 hm.r, M.leftN_pc X d hm.d64 hm.dvd 64 L (Nat.le_refl _) hm.l (by omega) (by simp), h0, M.pc_zero, Nat.zero_add]
section
variable {a0 a1 a2 a3 a4 a5 : Int}
theorem reh_path (V : Nat × Nat → List Int) (c i : Nat) (Rt Lf : List (Nat × Nat)) (hR : Rt.length ≤ 128) (hrow : ∀ x ∈ Rt, (V x).length ≤ 5000) : ∃ B E : Nat, (B : Int) = (if Rt.length = 0 then 0 else (c : Int)) ∧ (E : Int) = (if Rt.length = 0 then 0 else ((c + Rt.length : Nat) : Int)) ∧ E ≤ ((sibs c 0 i ++ Rt.reverse ++ Lf.reverse).map V).length ∧
    rehG a0 a1 a2 a3 a4 a5 ((sibs c 0 i ++ Rt.reverse ++ Lf.reverse).map V) B E ((sibs c 0 i ++ Rt.reverse ++ Lf.reverse).map V).length 0 [] = some (pathOf a0 a2 a5 V c i Rt Lf) := by
  by_cases hz : Rt = []
  · subst hz
    refine ⟨0, 0, rfl, rfl, Nat.zero_le _, ?_⟩
    rw [rehG_none (Nat.le_refl _)]
    unfold pathOf
    rw [if_pos rfl, List.reverse_nil, List.append_nil, List.append_nil, List.map_append, List.map_reverse]
  · have hlen : Rt.length ≠ 0 := fun h => hz (List.eq_nil_of_length_eq_zero h)
    rcases hrv : (Rt.map V).reverse with _ | ⟨y, X⟩
    · exact absurd (List.map_eq_nil_iff.1 (List.reverse_eq_nil_iff.1 hrv)) hz
    · have hRV : Rt.map V = X.reverse ++ [y] := by
        have h := congrArg List.reverse hrv
        rw [List.reverse_reverse, List.reverse_cons] at h
        exact h
      have hXl : Rt.length = X.length + 1 := by
        have h := congrArg List.length hRV
        rw [List.length_map, List.length_append, List.length_reverse] at h
        exact h
      have hXm : ∀ h ∈ y :: X, h.length ≤ 5000 := fun h hh => by
        rw [← hrv, List.mem_reverse] at hh
        obtain ⟨x, hx, rfl⟩ := List.mem_map.1 hh
        exact hrow x hx
      have hy := hXm y (by simp)
      have hch := toyBg (a0 := a0) (a1 := a1) (a2 := a2) (a3 := a3) (a4 := a4) (a5 := a5) 5000 (by omega) X y (fun h hh => hXm h (by simp [hh])) (by omega)
      have hmid := rehG_mid (a0 := a0) (a1 := a1) (a2 := a2) (a3 := a3) (a4 := a4) (a5 := a5) ((sibs c 0 i).map V) X ((Lf.map V).reverse) y _ hch
      have hL : (sibs c 0 i ++ Rt.reverse ++ Lf.reverse).map V = (sibs c 0 i).map V ++ (y :: X) ++ (Lf.map V).reverse := by
        rw [List.map_append, List.map_append, List.map_reverse, List.map_reverse, hrv]
      have hcl : ((sibs c 0 i).map V).length = c := by rw [List.length_map, sibs_length]
      rw [hcl] at hmid
      refine ⟨c, c + 1 + X.length, by rw [if_neg hlen], by rw [if_neg hlen]; omega, ?_, ?_⟩
      · rw [hL, List.length_append, List.length_append, hcl, List.length_cons]
        omega
      · rw [hL, hmid]
        unfold pathOf
        rw [if_neg hz, hRV, crown_append _ _ (by simp), List.reverse_reverse]
        rfl
theorem main_facts (e n : Nat) (hn : n < 18446744073709551616) (hen : e + 1 ≤ n) {l1 l3 : List (List Int)} {s : List Int} {W1 W3 : List (Nat × Nat)} (i1 : IsN 0 e W1) (i3 : IsN (e + 1) n W3) (n1 : l1.length = W1.length) (n3 : l3.length = W3.length) (s1 : l1.length ≤ 300) (s3 : l3.length ≤ 300) (r1 : ∀ h ∈ l1, h.length ≤ 5000) (r2 : s.length ≤ 5000) (r3 : ∀ h ∈ l3, h.length ≤ 5000) (hs : (s.length : Int) = a1) :
    ∃ lab labc m r, ArOk a0 a1 a2 a3 a4 a5 0 e (e + 1) l1 [s] lab 1000 ∧ ArOk a0 a1 a2 a3 a4 a5 0 (e + 1) n lab l3 labc 1000 ∧ Qf.compact_RangeSize.f ((0 : Nat) : Int) (n : Int) = some (labc.length : Int) ∧ labc.length = m + 1 ∧ m ≤ 1000 ∧ (∀ h ∈ labc, h.length ≤ 3000000000) ∧ chB a0 a2 a5 (labc.take m).reverse (labc.getD m []) = r ∧
    ∃ (ids : List S52) (q2 q3 q4 q5 : Int) (L : List (List Int)) (ids1 : List S108) (B E : Nat) (lv ix : Int) (path : List (List Int)), Ev (fun k => Qf.impl_Inclusion.f k (e : Int) (n : Int)) (ids, q2, q3, q4, q5, true) ∧ Ev (fun k => Qf.laws_growthHashes.f k ids [⟨0, (e : Int), l1⟩, ⟨((e + 1 : Nat) : Int), (n : Int), l3⟩]) (L, true) ∧ Ev (fun k => Qf.proof_Inclusion.f k (e : Int) (n : Int)) (ids1, (B : Int), (E : Int), lv, ix, none) ∧ ids1.length = L.length ∧ E ≤ L.length ∧ L.length ≤ 1000 ∧ Qf.impl_texts.f 1000 L = some L ∧ Qf.impl_texts.f 1000 path = some path ∧ rehG a0 a1 a2 a3 a4 a5 L B E L.length 0 [] = some path ∧ Qe.viF a0 a1 a2 a3 a4 a5 (e : Int) (n : Int) s path r = some (0, []) ∧ path.length = vlen e n := by
  have hone := isN_one (t := 0) (Nat.one_dvd e) (e := e + 1) rfl
  rw [Nat.pow_zero, Nat.div_one] at hone
  obtain ⟨V, v1, v2, v3, hV1, hV2⟩ := val_three (a0 := a0) (a2 := a2) (a5 := a5) (Nat.zero_le e) (Nat.le_succ e) hen i1 hone i3 (la := l1) (lb := [s]) (lc := l3) n1 rfl n3
  have hVs : V (0, e) = s := (List.cons.inj v2).1
  obtain ⟨Wab, iab, lenab⟩ := isN_ex 0 (e + 1) (by omega) (by omega)
  obtain ⟨W, iw, lenw⟩ := isN_ex 0 n (by omega) (by omega)
  have t1 := tot9_le l1 r1
  have t2 := tot9_le [s] (fun h hh => by rw [List.mem_singleton.1 hh]; exact r2)
  have t3 := tot9_le l3 r3
  have t2l : [s].length = 1 := rfl
  have g1 := mgen_of (a0 := a0) (a1 := a1) (a2 := a2) (a3 := a3) (a4 := a4) (a5 := a5) V (Nat.zero_le e) (Nat.le_succ e) (by omega) (by omega) i1 hone iab hV1 (by rw [v1, v2]; omega)
  rw [v1, v2] at g1
  have g2 := mgen_of (a0 := a0) (a1 := a1) (a2 := a2) (a3 := a3) (a4 := a4) (a5 := a5) V (Nat.zero_le (e + 1)) hen hn (by omega) iab i3 iw hV2 (by rw [v3]; omega)
  rw [v3] at g2
  have z1 := size_isN (Nat.zero_le e) (by omega) i1
  have z2 := size_isN (Nat.le_succ e) (by omega) hone
  have z3 := size_isN hen hn i3
  have zab := size_isN (Nat.zero_le (e + 1)) (by omega) iab
  have zw := size_isN (Nat.zero_le n) hn iw
  have ok : ∀ l : List (List Int), l.length ≤ 500 → (∀ h ∈ l, h.length ≤ 3000000000) → Qf.impl_texts.f 1000 l = some l := fun l hl ht => texts_ok l 1000 (by omega) (by omega) fun x hx => by
    have := ht x hx
    omega
  have rows : ∀ l : List (List Int), tot len9 l ≤ 5000000 → ∀ h ∈ l, h.length ≤ 3000000000 := fun l hl h hh => by
    have h2 := tot_mem len9 hh
    have h3 : len9 h = h.length + 9 := rfl
    omega
  have lab : (Wab.map V).length = Wab.length := List.length_map V
  have lw : (W.map V).length = W.length := List.length_map V
  have kab := ok (Wab.map V) (by omega) (rows _ (by omega))
  have rw_ := rows (W.map V) (by omega)
  have kw := ok (W.map V) (by omega) rw_
  have k1 := ok l1 (by omega) (rows _ (by omega))
  have k2 := ok [s] (by rw [t2l]; omega) (fun h hh => by rw [List.mem_singleton.1 hh]; omega)
  have k3 := ok l3 (by omega) (rows _ (by omega))
  have zz1 : Qf.compact_RangeSize.f ((0 : Nat) : Int) (e : Int) = some (l1.length : Int) := by rw [n1]; exact z1.1
  have zz3 : Qf.compact_RangeSize.f ((e + 1 : Nat) : Int) (n : Int) = some (l3.length : Int) := by rw [n3]; exact z3.1
  have zzab : Qf.compact_RangeSize.f ((0 : Nat) : Int) ((e + 1 : Nat) : Int) = some ((Wab.map V).length : Int) := by rw [lab]; exact zab.1
  have zzw : Qf.compact_RangeSize.f ((0 : Nat) : Int) (n : Int) = some ((W.map V).length : Int) := by rw [lw]; exact zw.1
  obtain ⟨c, Rt, Lf, hp, _, hev⟩ := nodes_path (l := 0) (by omega) hn (show e < n / 2 ^ 0 by rw [Nat.pow_zero, Nat.div_one]; omega)
  obtain ⟨S, M', g, hR, hL⟩ := geo_of hp
  have hlv := hp.lvl
  have hrl := hp.rlen
  have hll := hp.llen
  have hwh := whole_nodes g hR hL iw
  have hin : ∀ x ∈ sibs c 0 e ++ Rt.reverse ++ Lf.reverse, x ∈ W1 ∨ x ∈ W3 := fun x hx => path_nodes g hR hL i1 i3 hx
  have hsm : ∀ x ∈ sibs c 0 e ++ Rt.reverse ++ Lf.reverse, (V x).length ≤ 5000 := fun x hx => by
    rcases hin x hx with h | h
    · exact r1 _ (by rw [← v1]; exact List.mem_map_of_mem h)
    · exact r3 _ (by rw [← v3]; exact List.mem_map_of_mem h)
  have hVe : ∀ k, k < c → V (k + 1, e / 2 ^ (k + 1)) = hcF a0 a2 a5 (V (k, 2 * (e / 2 ^ (k + 1)))) (V (k, 2 * (e / 2 ^ (k + 1)) + 1)) := fun k _ => by
    have d1 := div_lo e (k + 1)
    have d2 := div_hi e (k + 1)
    have d3 := node_len (k + 1) (e / 2 ^ (k + 1))
    have d4 := Nat.two_pow_pos k
    have d5 : 2 ^ (k + 1) = 2 * 2 ^ k := by rw [Nat.pow_succ, Nat.mul_comm]
    rcases Nat.lt_or_ge (2 ^ (k + 1) * (e / 2 ^ (k + 1))) e with h | h
    · exact hV1 k _ h d2
    · exact hV2 k _ (by omega) (by omega)
  have hSlen := sibs_length c 0 e
  have hSl : (sibs c 0 e ++ Rt.reverse ++ Lf.reverse).length = c + Rt.length + Lf.length := by rw [List.length_append, List.length_append, List.length_reverse, List.length_reverse, hSlen]
  obtain ⟨B, E, hB, hE, hEl, hreh⟩ := reh_path (a0 := a0) (a1 := a1) (a2 := a2) (a3 := a3) (a4 := a4) (a5 := a5) V c e Rt Lf hrl (fun x hx => hsm x (List.mem_append_left _ (List.mem_append_right _ (List.mem_reverse.2 hx))))
  obtain ⟨q2, q3, q4, q5, hinc⟩ := incl_ev hn (by omega) hp hev
  have hpi := proofIncl_ev hn (by omega) hp hev
  rw [← hB, ← hE] at hpi
  have hgh := gh_ev V (S := sibs c 0 e ++ Rt.reverse ++ Lf.reverse) (Nat.zero_le e) (by omega) hen hn i1 i3 (by omega) (fun y hy => by have := hsm y hy; omega) hin
  rw [v1, v3] at hgh
  have hcr : Rt ≠ [] → (crown a0 a2 a5 (Rt.map V)).length ≤ 3000000000 := fun _ => by
    have h := crown_len (a0 := a0) (a2 := a2) (a5 := a5) (Rt.map V)
    have h2 := tot9_le (Rt.map V) (fun x hx => by
      obtain ⟨y, hy, rfl⟩ := List.mem_map.1 hx
      exact hsm y (List.mem_append_left _ (List.mem_append_right _ (List.mem_reverse.2 hy))))
    have h3 : tot (fun x : List Int => x.length + 9) (Rt.map V) = tot len9 (Rt.map V) := rfl
    rw [List.length_map] at h2
    omega
  have hprow : ∀ h ∈ pathOf a0 a2 a5 V c e Rt Lf, h.length ≤ 3000000000 := fun h hh => by
    unfold pathOf at hh
    rcases List.mem_append.1 hh with hh | hh
    · rcases List.mem_append.1 hh with hh | hh
      · obtain ⟨y, hy, rfl⟩ := List.mem_map.1 hh
        have := hsm y (List.mem_append_left _ (List.mem_append_left _ hy))
        omega
      · by_cases hz : Rt = []
        · rw [if_pos hz] at hh
          cases hh
        · rw [if_neg hz] at hh
          rw [List.mem_singleton.1 hh]
          exact hcr hz
    · obtain ⟨y, hy, rfl⟩ := List.mem_map.1 (List.mem_reverse.1 hh)
      have := hsm y (List.mem_append_right _ (List.mem_reverse.2 hy))
      omega
  have hplen : (pathOf a0 a2 a5 V c e Rt Lf).length ≤ 300 := by
    unfold pathOf
    rw [List.length_append, List.length_append, List.length_reverse, List.length_map, List.length_map, hSlen]
    have : (if Rt = [] then ([] : List (List Int)) else [crown a0 a2 a5 (Rt.map V)]).length ≤ 1 := by split <;> simp
    omega
  have hwl : 0 < (W.map V).length := by
    rw [lw, hwh, List.length_append, List.length_cons]
    omega
  obtain ⟨r, hr⟩ : ∃ r, r = crown a0 a2 a5 (W.map V) := ⟨_, rfl⟩
  have hrlen : r.length ≤ 100000000000000 := by
    have h := crown_len (a0 := a0) (a2 := a2) (a5 := a5) (W.map V)
    have h3 : tot (fun x : List Int => x.length + 9) (W.map V) = tot len9 (W.map V) := rfl
    rw [hr]
    omega
  have htk := path_taken a0 a1 a2 a3 a4 a5 V g hn (by omega) hR hL (rsize_zero S (by have := g.mn; have := g.m; have := Nat.two_pow_pos c; omega) hL) hVe (by rw [hVs]; omega) (by rw [hVs]; exact hs) hplen hprow (r := r) (by rw [hr, hwh]) hrlen
  rw [hVs] at htk
  refine ⟨Wab.map V, W.map V, (W.map V).length - 1, r, ⟨k1, k2, kab, Nat.zero_le _, Nat.le_succ _, zz1, z2.1, by omega, by omega, by omega, g1.1⟩, ⟨kab, k3, kw, Nat.zero_le _, hen, zzab, zz3, by omega, by omega, by omega, g2.1⟩, zzw, by omega, by omega, rw_, ?_, _, q2, q3, q4, q5, _, _, B, E, _, _, _, hinc, hgh, hpi, by rw [List.length_map, List.length_map], hEl, by rw [List.length_map]; omega, ok _ (by rw [List.length_map]; omega) (fun h hh => by
    obtain ⟨y, hy, rfl⟩ := List.mem_map.1 hh
    have := hsm y hy
    omega), ok _ (by omega) hprow, hreh, htk.1, htk.2⟩
  rw [hr]
  exact crown_chB _ hwl
end
theorem inclusionOfRanges (a0 a1 a2 a3 a4 a5 x1 x2 : Int) (A1 : Option Addr) (c1 : Nat) (l1 : List (List Int)) (A2 : Option Addr) (c2 : Nat) (s : List Int) (x3 x4 : Int) (A3 : Option Addr) (c3 : Nat) (l3 : List (List Int)) (w : World) (w1 : (Lit.int .u64 x1).wf = true) (w2 : (Lit.int .u64 x2).wf = true) (h1 : CL w A1 l1) (n1 : l1.length ≤ c1) (h2 : CB w A2 s) (n2 : s.length ≤ c2) (w3 : (Lit.int .u64 x3).wf = true) (w4 : (Lit.int .u64 x4).wf = true) (h3 : CL w A3 l3) (n3 : l3.length ≤ c3) (HG : Glob w) :
    Calls Tryd.prog 12 #[.agg #[.int .i64 a0, .int .i64 a1, .int .i64 a2, .int .u64 a3, .int .u64 a4, .int .u64 a5], .agg #[.int .u64 x1, .int .u64 x2, .slice A1 l1.length c1], .slice A2 s.length c2, .agg #[.int .u64 x3, .int .u64 x4, .slice A3 l3.length c3]] w fun e w' => e = .returned (.bool true) ∧ Below w.heap.size w w' := by
  obtain ⟨b, rfl, hb⟩ := nat_of_wf w1
  obtain ⟨e, rfl, he⟩ := nat_of_wf w2
  obtain ⟨b3, rfl, hb3⟩ := nat_of_wf w3
  obtain ⟨n, rfl, hn⟩ := nat_of_wf w4
  obtain ⟨q1, e1, m1⟩ := zz7 b e l1
  obtain ⟨q3, e3, m3⟩ := zz7 b3 n l3
  cases q1 with
  | false => exact Qf.li1 2147483648 a0 a1 a2 a3 a4 a5 b e b3 n A1 c1 l1 A2 c2 s A3 c3 l3 w h1 n1 h2 n2 h3 n3 (e1 _ (Nat.le_refl _))
  | true =>
  by_cases hbig : s.length ≤ 2147483647
  · cases q3 with
    | false => exact Qf.li3 2147483648 a0 a1 a2 a3 a4 a5 b e b3 n A1 c1 l1 A2 c2 s A3 c3 l3 w h1 n1 h2 n2 h3 n3 (e1 _ (Nat.le_refl _)) hbig (e3 _ (Nat.le_refl _))
    | true =>
    by_cases hne : (s.length : Int) = a1
    · by_cases he1 : e + 1 < 18446744073709551616
      · obtain ⟨k1, f1, r1, g1⟩ := fair_of b e he l1 (m1 rfl)
        obtain ⟨k2, f2, r2, g2⟩ := fair_of e (e + 1) he1 [s] (by simp)
        obtain ⟨k3, f3, r3, g3⟩ := fair_of b3 n hn l3 (m3 rfl)
        have hnx := next_three (k1 + k2 + k3 + 2147483648) b e (e + 1) b3 n l1 l3 s f1 f2 f3 (fun K hK => r1 K (by omega)) (fun K hK => r2 K (by omega)) (fun K hK => r3 K (by omega))
        rcases hv : f1 && decide (b = 0) && f2 && f3 && decide (b3 = e + 1) with _ | _
        · rw [hv] at hnx
          exact Qf.li6 (k1 + k2 + k3 + 2147483648 + 4) a0 a1 a2 a3 a4 a5 b e b3 n (e + 1) A1 c1 l1 A2 c2 s A3 c3 l3 w h1 n1 h2 n2 h3 n3 (e1 _ (by omega)) hbig (e3 _ (by omega)) hne rfl he1 (hnx _ (Nat.le_refl _))
        · rw [hv] at hnx
          simp only [Bool.and_eq_true, decide_eq_true_eq] at hv
          obtain ⟨⟨⟨⟨p1, rfl⟩, p2⟩, p3⟩, rfl⟩ := hv
          obtain ⟨s1, v1, _, W1, i1, y1⟩ := g1 p1
          obtain ⟨_, v2, _, _⟩ := g2 p2
          obtain ⟨s3, v3, hen, W3, i3, y3⟩ := g3 p3
          obtain ⟨lab, labc, m, r, o1, o2, hsz, hm, hm2, hrow, hr, ids, u2, u3, u4, u5, L, ids1, B, E, lv, ix, path, ⟨ka, ea⟩, ⟨kb, eb⟩, ⟨kc, ec⟩, y4, y5, y6, y7, y8, y9, y10, y11⟩ := main_facts (a0 := a0) (a1 := a1) (a2 := a2) (a3 := a3) (a4 := a4) (a5 := a5) e n hn hen (s := s) i1 i3 y1 y3 s1 s3 v1 (v2 s (by simp)) v3 hne
          obtain ⟨parts, hpp, hpl⟩ := parts_ev (show e < n by omega) hn
          obtain ⟨K, hK⟩ : ∃ K, K = k1 + k2 + k3 + 2147483648 + 4 + ka + kb := ⟨_, rfl⟩
          exact Qf.li7 K a0 a1 a2 a3 a4 a5 e (e + 1) n A1 c1 l1 A2 c2 s A3 c3 l3 w h1 n1 h2 n2 h3 n3 (e1 K (by omega)) hbig (e3 K (by omega)) hne rfl he1 (hnx K (by omega)) HG 1000 lab labc m r o1 o2 hsz hn hm hm2 hrow hr ids u2 u3 u4 u5 (ea K (by omega)) L (eb K (by omega)) kc 1000 ids1 B E lv ix path (ec kc (Nat.le_refl _)) y4 y5 y6 y7 y8 y9 y10 parts (hpp K (by omega)) (y11.trans hpl.symm)
      · exact Qf.li5 2147483648 a0 a1 a2 a3 a4 a5 b e b3 n A1 c1 l1 A2 c2 s A3 c3 l3 w h1 n1 h2 n2 h3 n3 (e1 _ (Nat.le_refl _)) hbig (e3 _ (Nat.le_refl _)) hne (by omega)
    · exact Qf.li4 2147483648 a0 a1 a2 a3 a4 a5 b e b3 n A1 c1 l1 A2 c2 s A3 c3 l3 w h1 n1 h2 n2 h3 n3 (e1 _ (Nat.le_refl _)) hbig (e3 _ (Nat.le_refl _)) hne
  · exact Qf.li2 2147483648 a0 a1 a2 a3 a4 a5 b e b3 n A1 c1 l1 A2 c2 s A3 c3 l3 w h1 n1 h2 n2 h3 n3 (e1 _ (Nat.le_refl _)) (by omega)
end Go.Proofs.YtfhcpniibiobgaaDoor.Pure
