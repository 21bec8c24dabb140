/- FnRangeMergeGroups, all ways joined: plain. -/
import Derived.Test.YtfhcpniibiobgaaDoorMv
import Derived.Test.YtfhcpniibiobgaaDoorJp
import Derived.Test.YtfhcpniibiobgaaDoorJm
import Derived.Test.YtfhcpniibiobgaaDoorJr
namespace Go.Proofs.YtfhcpniibiobgaaDoor.Pure
open Go.RowKit Go.Proofs.YtfhcpniibiobgaaDoorW.PrintWords Go.Proofs.YtfhcpniibiobgaaDoorW.PrintMore Go.Proofs.YtfhcpniibiobgaaDoorW.PrintLast
open Hs (CB CL)
open Go.Proofs.YtfhcpniibiobgaaDoor.M (IsN isN_uniq isN_cut isN_ex isN_one nodesN pc)
open Core (tot tot_append tot_mem)
open Qf (MGen MStep mrO mgO ArOk ApOk1 pc_step pc_le')

theorem nodes_up (b e : Int) (l : List Qf.S52) (k : Nat) (h : Qf.spec_Nodes.f k b e = some l) : ∀ d, Qf.spec_Nodes.f (k + d) b e = some l
  | 0 => h
  | d + 1 => Qf.spec_Nodes.mono b e (k + d) l (nodes_up b e l k h d)
/-- How many hashes a range has. -/
theorem size_isN {b e : Nat} {W : List (Nat × Nat)} (hbe : b ≤ e) (he : e < 18446744073709551616) (h : IsN b e W) : Qf.compact_RangeSize.f (b : Int) (e : Int) = some ((W.length : Nat) : Int) ∧ W.length ≤ 128 := by
  obtain ⟨L, R, M, d, hf, hm⟩ := decompose_of b e hbe he
  obtain rfl := isN_uniq h (isN_cut (cut_of hm))
  exact ⟨size_of hf hm he, len128 _ _ _ _⟩
/-- Whether a range is fair, and what it then is. -/
theorem fair_of (b e : Nat) (he : e < 18446744073709551616) (hs : List (List Int)) (hlen : hs.length ≤ 2147483647) : ∃ k1 fb, (∀ K, k1 + 2147483648 ≤ K → Qf.laws_rangeFair.f K (b : Int) (e : Int) hs = some fb) ∧ (fb = true → hs.length ≤ 300 ∧ (∀ h ∈ hs, h.length ≤ 5000) ∧ b ≤ e ∧ ∃ W, IsN b e W ∧ hs.length = W.length) := by
  by_cases hbe : b ≤ e
  · obtain ⟨L, R, M, d, hf, hm⟩ := decompose_of b e hbe he
    obtain ⟨k1, hk1⟩ := nodes_of hm he
    have hup : ∀ K, k1 ≤ K → Qf.spec_Nodes.f K (b : Int) (e : Int) = some _ := fun K hK => by
      obtain ⟨d, rfl⟩ : ∃ d, K = k1 + d := ⟨K - k1, by omega⟩
      exact nodes_up _ _ _ _ hk1 d
    obtain ⟨nd, hnd⟩ : ∃ nd, nd = (nodesN M e L R).length := ⟨_, rfl⟩
    have hpr : ∀ K, k1 ≤ K → Qf.spec_ProperRange.f K (b : Int) (e : Int) hs = some (decide (hs.length = nd)) := fun K hK => by
      unfold Qf.spec_ProperRange.f
      rw [if_pos (by omega), hup K hK, Option.bind_some, List.length_map, ← hnd]
      refine congrArg some ?_
      by_cases h : hs.length = nd
      · rw [decide_eq_true h]
        exact beq_iff_eq.2 (by omega)
      · rw [decide_eq_false h]
        exact beq_eq_false_iff_ne.2 (by omega)
    by_cases hq : hs.length = nd
    · obtain ⟨pb, hp, hpl⟩ := small_f hs hlen 2147483648 (Nat.le_refl _)
      refine ⟨k1, pb, fun K hK => ?_, fun ht => ⟨(hpl ht).1, (hpl ht).2, hbe, _, isN_cut (cut_of hm), hq.trans hnd⟩⟩
      have hup2 : ∀ d, Qf.laws_logSmall.f (2147483648 + d) hs = some pb := fun d => by
        induction d with
        | zero => exact hp
        | succ d ih => exact Qf.laws_logSmall.mono hs (2147483648 + d) pb ih
      obtain ⟨d, rfl⟩ : ∃ d, K = 2147483648 + d := ⟨K - 2147483648, by omega⟩
      unfold Qf.laws_rangeFair.f
      rw [hpr _ (by omega), Option.bind_some, if_pos (by rw [decide_eq_true hq]), hup2, Option.bind_some]
    · refine ⟨k1, false, fun K hK => ?_, fun h => by cases h⟩
      unfold Qf.laws_rangeFair.f
      rw [hpr K (by omega), Option.bind_some, if_neg (by simpa using hq)]
  · refine ⟨0, false, fun K _ => ?_, fun h => by cases h⟩
    unfold Qf.laws_rangeFair.f Qf.spec_ProperRange.f
    rw [if_neg (by omega), Option.bind_some, if_neg (by simp)]
theorem zz7 (b e : Int) (hs : List (List Int)) : ∃ zb, (∀ K, 2147483648 ≤ K → Qf.laws_zzFits7.f K b e hs = some zb) ∧ (zb = true → hs.length ≤ 2147483647) := by
  obtain ⟨zb, hz, hzl⟩ := zz_f hs 2147483648 (Nat.le_refl _)
  refine ⟨zb, fun K hK => ?_, hzl⟩
  have hup : ∀ d, Qf.laws_zzFits2.f (2147483648 + d) hs = some zb := fun d => by
    induction d with
    | zero => exact hz
    | succ d ih => exact Qf.laws_zzFits2.mono hs (2147483648 + d) zb ih
  obtain ⟨d, rfl⟩ : ∃ d, K = 2147483648 + d := ⟨K - 2147483648, by omega⟩
  unfold Qf.laws_zzFits7.f
  rw [hup, Option.bind_some]
  cases zb <;> rfl
theorem tot9_le (l : List (List Int)) (h : ∀ x ∈ l, x.length ≤ 5000) : tot len9 l ≤ l.length * 5009 := by
  induction l with
  | nil => simp [tot]
  | cons x l ih =>
    have h1 := h x (by simp)
    have h2 := ih fun y hy => h y (by simp [hy])
    rw [tot, List.length_cons, Nat.succ_mul]
    show x.length + 9 + tot len9 l ≤ _
    omega
section
variable {a0 a1 a2 a3 a4 a5 : Int}
theorem bits_all {x : Nat} : ∀ n, pc n x = n → ∀ i, i < n → x / 2 ^ i % 2 = 1
  | 0, _, i, hi => by omega
  | n + 1, h, i, hi => by
    have h1 := pc_step x n
    have h2 := pc_le' x n
    by_cases e : i = n
    · subst e; omega
    · exact bits_all n (by omega) i (by omega)
theorem mg_mr {l m : List (List Int)} {x : Nat} {s : List Int} : ∀ n {t : List Int}, pc n x = n → mrO a0 a1 a2 a3 a4 a5 l m x n s = some t → mgO a0 a1 a2 a3 a4 a5 l n s = some t
  | 0, t, _, h => h
  | n + 1, t, hp, h => by
    have h1 := pc_step x n
    have h2 := pc_le' x n
    have h3 : pc n x = n := by omega
    rw [mrO] at h
    rw [mgO]
    rcases hm : mrO a0 a1 a2 a3 a4 a5 l m x n s with _ | s'
    · rw [hm] at h; cases h
    · rw [hm, Option.bind_some, if_pos (by omega), h3, show l.length - 1 - n = l.length - (n + 1) by omega] at h
      rw [mg_mr n h3 hm, Option.bind_some]
      exact h
/-- One hash appended as a range is that hash appended. -/
theorem mstep_of {b e : Nat} {l l' : List (List Int)} {s : List Int} (h : MGen a0 a1 a2 a3 a4 a5 b e (e + 1) l [s] l') : MStep a0 a1 a2 a3 a4 a5 b e l s l' := by
  rcases h with ⟨h, _⟩ | ⟨s', m, low, hgh, hs, hmp, hc⟩
  · cases h
  · obtain ⟨rfl, rfl⟩ := List.cons.inj hs
    refine ⟨low, hgh, hmp, ?_⟩
    rcases hc with ⟨h1, h2, h3, h4⟩ | ⟨n, o, t, h1, h2, h3, h4, h5, h6, h7, h8⟩
    · exact .inl ⟨h1, h2, h3, by rw [h4, List.append_nil]⟩
    · have hn : n ≤ o := by
        have : n - o ≤ 0 := h5
        omega
      have h9 := pc_le' (e / 2 ^ low) n
      have ho : o = n := by omega
      rw [ho] at h3 h4 h6 h8
      refine .inr ⟨n, t, h1, h2, h4, h6, bits_all n h3.symm, mg_mr n h3.symm h7, ?_⟩
      rw [h8, Nat.sub_self, List.drop_zero, List.append_nil]
/-- All that the calls want, of three fair ranges in a row. -/
theorem three (p0 p1 p2 p3 : Nat) (h3 : p3 < 18446744073709551616) (h01 : p0 ≤ p1) (h12 : p1 ≤ p2) (h23 : p2 ≤ p3) (hno : ¬ (p1 = 0 ∧ p3 = 18446744073709551615)) {l1 l2 l3 : List (List Int)} {W1 W2 W3 : List (Nat × Nat)} (i1 : IsN p0 p1 W1) (i2 : IsN p1 p2 W2) (i3 : IsN p2 p3 W3) (n1 : l1.length = W1.length) (n2 : l2.length = W2.length) (n3 : l3.length = W3.length) (s1 : l1.length ≤ 300) (s2 : l2.length ≤ 300) (s3 : l3.length ≤ 300) (r1 : ∀ h ∈ l1, h.length ≤ 5000) (r2 : ∀ h ∈ l2, h.length ≤ 5000) (r3 : ∀ h ∈ l3, h.length ≤ 5000) :
    ∃ lab labc lbc, ArOk a0 a1 a2 a3 a4 a5 p0 p1 p2 l1 l2 lab 1000 ∧ ArOk a0 a1 a2 a3 a4 a5 p0 p2 p3 lab l3 labc 1000 ∧ ArOk a0 a1 a2 a3 a4 a5 p1 p2 p3 l2 l3 lbc 1000 ∧ ArOk a0 a1 a2 a3 a4 a5 p0 p1 p3 l1 lbc labc 1000 ∧ (p2 + 1 = p3 → ApOk1 a0 a1 a2 a3 a4 a5 p0 p2 lab l3 labc 1000) ∧ labc.length ≤ 128 := by
  obtain ⟨V, v1, v2, v3, hV1, hV2⟩ := val_three (a0 := a0) (a2 := a2) (a5 := a5) h01 h12 h23 i1 i2 i3 n1 n2 n3
  obtain ⟨Wab, iab, lenab⟩ := isN_ex p0 p2 (by omega) (by omega)
  obtain ⟨Wabc, iabc, lenabc⟩ := isN_ex p0 p3 (by omega) (by omega)
  obtain ⟨Wbc, ibc, lenbc⟩ := isN_ex p1 p3 (by omega) (by omega)
  have t1 := tot9_le l1 r1
  have t2 := tot9_le l2 r2
  have t3 := tot9_le l3 r3
  have g1 := mgen_of (a0 := a0) (a1 := a1) (a2 := a2) (a3 := a3) (a4 := a4) (a5 := a5) V h01 h12 (by omega) (by omega) i1 i2 iab hV1 (by rw [v1, v2]; omega)
  rw [v1, v2] at g1
  have g2 := mgen_of (a0 := a0) (a1 := a1) (a2 := a2) (a3 := a3) (a4 := a4) (a5 := a5) V (Nat.le_trans h01 h12) h23 h3 (by omega) iab i3 iabc hV2 (by rw [v3]; omega)
  rw [v3] at g2
  have g3 := mgen_of (a0 := a0) (a1 := a1) (a2 := a2) (a3 := a3) (a4 := a4) (a5 := a5) V h12 h23 h3 (by omega) i2 i3 ibc hV2 (by rw [v2, v3]; omega)
  rw [v2, v3] at g3
  have g4 := mgen_of (a0 := a0) (a1 := a1) (a2 := a2) (a3 := a3) (a4 := a4) (a5 := a5) V h01 (Nat.le_trans h12 h23) h3 (by omega) i1 ibc iabc hV1 (by rw [v1]; omega)
  rw [v1] at g4
  have z1 := size_isN h01 (by omega) i1
  have z2 := size_isN h12 (by omega) i2
  have z3 := size_isN h23 h3 i3
  have zab := size_isN (Nat.le_trans h01 h12) (by omega) iab
  have zbc := size_isN (Nat.le_trans h12 h23) h3 ibc
  have ok : ∀ l : List (List Int), l.length ≤ 300 → tot len9 l ≤ 5000000 → Qf.impl_texts.f 1000 l = some l := fun l hl ht => texts_ok l 1000 (by omega) (by omega) fun x hx => by
    have : x.length + 9 ≤ _ := tot_mem len9 hx
    omega
  have lab : (Wab.map V).length = Wab.length := List.length_map V
  have labc : (Wabc.map V).length = Wabc.length := List.length_map V
  have lbc : (Wbc.map V).length = Wbc.length := List.length_map V
  have k1 := ok l1 s1 (by omega)
  have k2 := ok l2 s2 (by omega)
  have k3 := ok l3 s3 (by omega)
  have kab := ok (Wab.map V) (by omega) (by omega)
  have kabc := ok (Wabc.map V) (by omega) (by omega)
  have kbc := ok (Wbc.map V) (by omega) (by omega)
  have zz1 : Qf.compact_RangeSize.f (p0 : Int) (p1 : Int) = some (l1.length : Int) := by rw [n1]; exact z1.1
  have zz2 : Qf.compact_RangeSize.f (p1 : Int) (p2 : Int) = some (l2.length : Int) := by rw [n2]; exact z2.1
  have zz3 : Qf.compact_RangeSize.f (p2 : Int) (p3 : Int) = some (l3.length : Int) := by rw [n3]; exact z3.1
  have zzab : Qf.compact_RangeSize.f (p0 : Int) (p2 : Int) = some ((Wab.map V).length : Int) := by rw [lab]; exact zab.1
  have zzbc : Qf.compact_RangeSize.f (p1 : Int) (p3 : Int) = some ((Wbc.map V).length : Int) := by rw [lbc]; exact zbc.1
  refine ⟨Wab.map V, Wabc.map V, Wbc.map V, ⟨k1, k2, kab, h01, h12, zz1, zz2, by omega, by omega, by omega, g1.1⟩, ⟨kab, k3, kabc, by omega, h23, zzab, zz3, by omega, by omega, by omega, g2.1⟩, ⟨k2, k3, kbc, h12, h23, zz2, zz3, by omega, by omega, by omega, g3.1⟩, ⟨k1, kbc, kabc, h01, by omega, zz1, zzbc, by omega, by omega, by omega, g4.1⟩, fun hp => ?_, by omega⟩
  obtain rfl := hp.symm
  have hw3 := isN_uniq i3 (isN_one (t := 0) (Nat.one_dvd p2) rfl)
  have hl3 : l3.length = 1 := by rw [n3, hw3]; rfl
  obtain ⟨s, hs⟩ := List.length_eq_one_iff.1 hl3
  have hg := g2.1
  rw [hs] at hg
  refine ⟨kab, k3, kabc, by omega, zzab, hl3, ?_, h3, by omega, by omega, ?_⟩
  · have := r3 s (by rw [hs]; exact List.mem_singleton.2 rfl)
    rw [hs]
    show s.length ≤ _
    omega
  · rw [hs]
    exact mstep_of hg
end
theorem same_self (l : List (List Int)) (hl : l.length ≤ 128) (b e : Int) : Qf.spec_SameRange.f b e l b e l = some true := by
  unfold Qf.spec_SameRange.f
  rw [if_pos rfl, if_pos rfl, show Qf.spec_Same.f l l = some true from (if_pos (by omega)).trans (congrArg some (Hs.sameF_yes rfl fun j _ => beq_self_eq_true _)), Option.bind_some]
theorem bne_facts {x y : Nat} : (x ≠ y → (x != y) = true ∧ ((x : Int) != (y : Int)) = true) ∧ (x = y → (x != y) = false ∧ ((x : Int) != (y : Int)) = false) := by
  refine ⟨fun h => ⟨bne_iff_ne.2 h, bne_iff_ne.2 (by omega)⟩, fun h => ?_⟩
  subst h
  exact ⟨bne_self_eq_false _, bne_self_eq_false _⟩
theorem rangeMergeGroups (a0 a1 a2 a3 a4 a5 x1 x2 : Int) (A1 : Option Addr) (c1 : Nat) (l1 : List (List Int)) (x3 x4 : Int) (A2 : Option Addr) (c2 : Nat) (l2 : List (List Int)) (x5 x6 : Int) (A3 : Option Addr) (c3 : Nat) (l3 : List (List Int)) (w : World) (w1 : (Lit.int .u64 x1).wf = true) (w2 : (Lit.int .u64 x2).wf = true) (h1 : CL w A1 l1) (n1 : l1.length ≤ c1) (w3 : (Lit.int .u64 x3).wf = true) (w4 : (Lit.int .u64 x4).wf = true) (h2 : CL w A2 l2) (n2 : l2.length ≤ c2) (w5 : (Lit.int .u64 x5).wf = true) (w6 : (Lit.int .u64 x6).wf = true) (h3 : CL w A3 l3) (n3 : l3.length ≤ c3) (HG : Glob w) :
    Calls Tryd.prog 8 #[.agg #[.int .i64 a0, .int .i64 a1, .int .i64 a2, .int .u64 a3, .int .u64 a4, .int .u64 a5], .agg #[.int .u64 x1, .int .u64 x2, .slice A1 l1.length c1], .agg #[.int .u64 x3, .int .u64 x4, .slice A2 l2.length c2], .agg #[.int .u64 x5, .int .u64 x6, .slice A3 l3.length c3]] w fun e w' => e = .returned (.bool true) ∧ Below w.heap.size w w' := by
  obtain ⟨b1, rfl, hb1⟩ := nat_of_wf w1
  obtain ⟨z1, rfl, hz1⟩ := nat_of_wf w2
  obtain ⟨b2, rfl, hb2⟩ := nat_of_wf w3
  obtain ⟨z2, rfl, hz2⟩ := nat_of_wf w4
  obtain ⟨b3, rfl, hb3⟩ := nat_of_wf w5
  obtain ⟨z3, rfl, hz3⟩ := nat_of_wf w6
  obtain ⟨q1, e1, m1⟩ := zz7 b1 z1 l1
  obtain ⟨q2, e2, m2⟩ := zz7 b2 z2 l2
  obtain ⟨q3, e3, m3⟩ := zz7 b3 z3 l3
  cases q1 with
  | false => exact Qf.mg1 2147483648 a0 a1 a2 a3 a4 a5 b1 z1 b2 z2 b3 z3 A1 c1 l1 A2 c2 l2 A3 c3 l3 w h1 n1 h2 n2 h3 n3 (e1 _ (Nat.le_refl _))
  | true =>
  cases q2 with
  | false => exact Qf.mg2 2147483648 a0 a1 a2 a3 a4 a5 b1 z1 b2 z2 b3 z3 A1 c1 l1 A2 c2 l2 A3 c3 l3 w h1 n1 h2 n2 h3 n3 (e1 _ (Nat.le_refl _)) (e2 _ (Nat.le_refl _))
  | true =>
  cases q3 with
  | false => exact Qf.mg3 2147483648 a0 a1 a2 a3 a4 a5 b1 z1 b2 z2 b3 z3 A1 c1 l1 A2 c2 l2 A3 c3 l3 w h1 n1 h2 n2 h3 n3 (e1 _ (Nat.le_refl _)) (e2 _ (Nat.le_refl _)) (e3 _ (Nat.le_refl _))
  | true =>
  obtain ⟨k1, f1, r1, g1⟩ := fair_of b1 z1 hz1 l1 (m1 rfl)
  obtain ⟨k2, f2, r2, g2⟩ := fair_of b2 z2 hz2 l2 (m2 rfl)
  obtain ⟨k3, f3, r3, g3⟩ := fair_of b3 z3 hz3 l3 (m3 rfl)
  obtain ⟨K, hK⟩ : ∃ K, K = k1 + k2 + k3 + 2147483648 := ⟨_, rfl⟩
  have e1 := e1 K (by omega)
  have e2 := e2 K (by omega)
  have e3 := e3 K (by omega)
  have r1 := r1 K (by omega)
  have r2 := r2 K (by omega)
  have r3 := r3 K (by omega)
  clear hK
  cases f1 with
  | false => exact Qf.mg4 K a0 a1 a2 a3 a4 a5 b1 z1 b2 z2 b3 z3 A1 c1 l1 A2 c2 l2 A3 c3 l3 w h1 n1 h2 n2 h3 n3 e1 e2 e3 r1
  | true =>
  cases f2 with
  | false => exact Qf.mg5 K a0 a1 a2 a3 a4 a5 b1 z1 b2 z2 b3 z3 A1 c1 l1 A2 c2 l2 A3 c3 l3 w h1 n1 h2 n2 h3 n3 e1 e2 e3 r1 r2
  | true =>
  cases f3 with
  | false => exact Qf.mg6 K a0 a1 a2 a3 a4 a5 b1 z1 b2 z2 b3 z3 A1 c1 l1 A2 c2 l2 A3 c3 l3 w h1 n1 h2 n2 h3 n3 e1 e2 e3 r1 r2 r3
  | true =>
  obtain ⟨s1, v1, b1z, W1, i1, y1⟩ := g1 rfl
  obtain ⟨s2, v2, b2z, W2, i2, y2⟩ := g2 rfl
  obtain ⟨s3, v3, b3z, W3, i3, y3⟩ := g3 rfl
  by_cases d1 : z1 = b2
  · obtain ⟨u1, u1i⟩ := bne_facts.2 d1
    by_cases d2 : z2 = b3
    · obtain ⟨u2, u2i⟩ := bne_facts.2 d2
      by_cases d3 : z1 = 0 ∧ z3 = 18446744073709551615
      · exact Qf.mg9 K a0 a1 a2 a3 a4 a5 b1 z1 b2 z2 b3 z3 A1 c1 l1 A2 c2 l2 A3 c3 l3 w h1 n1 h2 n2 h3 n3 e1 e2 e3 r1 r2 r3 u1 u1i u2 u2i (beq_iff_eq.2 d3.1) (beq_iff_eq.2 (by omega)) (beq_iff_eq.2 d3.2) (beq_iff_eq.2 (by omega))
      · subst d1 d2
        obtain ⟨lab, labc, lbc, o1, o2, o3, o4, o5, o6⟩ := three (a0 := a0) (a1 := a1) (a2 := a2) (a3 := a3) (a4 := a4) (a5 := a5) b1 z1 z2 z3 hz3 b1z b2z b3z d3 i1 i2 i3 y1 y2 y3 s1 s2 s3 v1 v2 v3
        have sr := same_self labc o6 (b1 : Int) (z3 : Int)
        have hw : IntKind.u64.wrap ((z3 : Int) - (z2 : Int)) = ((z3 - z2 : Nat) : Int) := by
          rw [wu64 (by omega) (by omega)]
          omega
        by_cases d5 : z2 + 1 = z3
        · have q5 : (IntKind.u64.wrap ((z3 : Int) - (z2 : Int)) != 1) = false := by
            rw [hw, show ((z3 - z2 : Nat) : Int) = 1 by omega]
            rfl
          by_cases d4 : z1 = 0
          · have d6 : z3 ≠ 18446744073709551615 := fun h => d3 ⟨d4, h⟩
            exact Qf.mg13 K a0 a1 a2 a3 a4 a5 b1 z1 z2 z3 A1 c1 l1 A2 c2 l2 A3 c3 l3 w h1 n1 h2 n2 h3 n3 e1 e2 e3 r1 r2 r3 (beq_iff_eq.2 d4) (beq_iff_eq.2 (by omega)) (beq_eq_false_iff_ne.2 d6) (beq_eq_false_iff_ne.2 (by omega)) HG 1000 lab labc lbc o1 o2 o3 o4 sr q5 d5 (o5 d5)
          · exact Qf.mg12 K a0 a1 a2 a3 a4 a5 b1 z1 z2 z3 A1 c1 l1 A2 c2 l2 A3 c3 l3 w h1 n1 h2 n2 h3 n3 e1 e2 e3 r1 r2 r3 (beq_eq_false_iff_ne.2 d4) (beq_eq_false_iff_ne.2 (by omega)) HG 1000 lab labc lbc o1 o2 o3 o4 sr q5 d5 (o5 d5)
        · have q5 : (IntKind.u64.wrap ((z3 : Int) - (z2 : Int)) != 1) = true := by
            rw [hw]
            exact bne_iff_ne.2 (by omega)
          by_cases d4 : z1 = 0
          · have d6 : z3 ≠ 18446744073709551615 := fun h => d3 ⟨d4, h⟩
            exact Qf.mg11 K a0 a1 a2 a3 a4 a5 b1 z1 z2 z3 A1 c1 l1 A2 c2 l2 A3 c3 l3 w h1 n1 h2 n2 h3 n3 e1 e2 e3 r1 r2 r3 (beq_iff_eq.2 d4) (beq_iff_eq.2 (by omega)) (beq_eq_false_iff_ne.2 d6) (beq_eq_false_iff_ne.2 (by omega)) HG 1000 lab labc lbc o1 o2 o3 o4 sr q5
          · exact Qf.mg10 K a0 a1 a2 a3 a4 a5 b1 z1 z2 z3 A1 c1 l1 A2 c2 l2 A3 c3 l3 w h1 n1 h2 n2 h3 n3 e1 e2 e3 r1 r2 r3 (beq_eq_false_iff_ne.2 d4) (beq_eq_false_iff_ne.2 (by omega)) HG 1000 lab labc lbc o1 o2 o3 o4 sr q5
    · obtain ⟨u2, u2i⟩ := bne_facts.1 d2
      exact Qf.mg8 K a0 a1 a2 a3 a4 a5 b1 z1 b2 z2 b3 z3 A1 c1 l1 A2 c2 l2 A3 c3 l3 w h1 n1 h2 n2 h3 n3 e1 e2 e3 r1 r2 r3 u1 u1i u2 u2i
  · obtain ⟨u1, u1i⟩ := bne_facts.1 d1
    exact Qf.mg7 K a0 a1 a2 a3 a4 a5 b1 z1 b2 z2 b3 z3 A1 c1 l1 A2 c2 l2 A3 c3 l3 w h1 n1 h2 n2 h3 n3 e1 e2 e3 r1 r2 r3 u1 u1i
end Go.Proofs.YtfhcpniibiobgaaDoor.Pure
