/- Several texts, joined. -/
import Derived.Test.YtfhcpniibiobgaaDoorJc
namespace Go.Proofs.YtfhcpniibiobgaaDoor.Qf
open Go.RowKit Go.Proofs.YtfhcpniibiobgaaDoorW.PrintWords Go.Proofs.YtfhcpniibiobgaaDoorW.PrintLast Go.Proofs.YtfhcpniibiobgaaDoorW.PrintMore
open Hs (CB CL at_L at_B infoB infoL R_of_blk)
theorem pow_wrap (sh : Nat) (h : sh < 64) : IntKind.u64.wrap ((2 : Int) ^ sh) = ((2 ^ sh : Nat) : Int) := by
  have hlt : 2 ^ sh < 2 ^ 64 := Nat.pow_lt_pow_right (by omega) h
  have e : ((2 : Int) ^ sh) = ((2 ^ sh : Nat) : Int) := by push_cast; rfl
  show ((2 : Int) ^ sh) % 18446744073709551616 = _
  rw [e]
  generalize 2 ^ sh = y at hlt ⊢
  omega
theorem add_w (a b : Nat) (h : a + b < 9223372036854775808) : wrap64 ((a : Int) + (b : Int)) = ((a + b : Nat) : Int) := by
  rw [w64_in _ (by omega)]
  exact (Int.natCast_add a b).symm
theorem sub_w1 (s1 p : Nat) (h : p + 1 = s1) (hlt : s1 < 18446744073709551616) : IntKind.u64.wrap ((s1 : Int) - 1) = (p : Int) := by
  rw [show (s1 : Int) - 1 = (p : Int) by omega]
  show (p : Int) % 18446744073709551616 = _
  omega
theorem sub_w (a b c : Nat) (h : c + b = a) (hlt : a < 9223372036854775808) : wrap64 ((a : Int) - (b : Int)) = (c : Int) := by
  rw [w64_in _ (by omega)]
  omega
theorem zero_w (a : Nat) (hlt : a < 9223372036854775808) : wrap64 (0 + (a : Int)) = (a : Int) := by
  rw [w64_in _ (by omega)]
  omega
set_option maxHeartbeats 2000000 in
set_option maxRecDepth 100000 in
theorem vc_err5 (a0 a1 a2 a3 a4 a5 : Int) (s1 s2 p : Nat) (A : Option Addr) (c : Nat) (l : List (List Int)) (A1 : Option Addr) (n1 c1 : Nat) (A2 : Option Addr) (n2 c2 : Nat) (inner border sh inn st : Nat) (w : World) (hl : CL w A l) (hll : l.length ≤ 5864062014805) (HG_ : Glob w) (hs1 : 0 < s1) (hs12 : s1 < s2) (hs2 : s2 < 18446744073709551616) (hp : p + 1 = s1) (hnl : 0 < l.length)
    (hd : proof_decompInclProof.f (p : Int) (s2 : Int) = some ((inner : Int), (border : Int))) (hz : bits_TrailingZeros64.f (s1 : Int) = some (sh : Int)) (hsh : sh < 64) (hin : inn + sh = inner) (hin2 : inner ≤ 64) (hbo : border ≤ 64) (hst : st = if s1 = 2 ^ sh then 0 else 1) (hn : l.length ≠ st + inn + border) :
    Calls Tryd.prog 60 #[toyV a0 a1 a2 a3 a4 a5, .int .u64 (s1 : Nat), .int .u64 (s2 : Nat), .slice A l.length c, .slice A1 n1 c1, .slice A2 n2 c2] w fun e w' => ∃ x, e = .returned (.iface 175 (.pointer (some x))) ∧ Below w.heap.size w w' := by
  have HST := Aside0.mk hst
  clear hst
  have t1_ : decide (s2 < s1) = false := decide_eq_false (by omega)
  have t1i : decide ((s2 : Int) < (s1 : Int)) = false := decide_eq_false (by omega)
  have t2_ : (s1 == s2) = false := beq_eq_false_iff_ne.2 (by omega)
  have t2i : ((s1 : Int) == (s2 : Int)) = false := beq_eq_false_iff_ne.2 (by omega)
  have t3_ : (s1 == 0) = false := beq_eq_false_iff_ne.2 (by omega)
  have t3i : ((s1 : Int) == 0) = false := beq_eq_false_iff_ne.2 (by omega)
  have t4_ : (l.length == 0) = false := beq_eq_false_iff_ne.2 (by omega)
  have t4i : ((l.length : Int) == 0) = false := beq_eq_false_iff_ne.2 (by omega)
  have b0 : s1 < 18446744073709551616 := by omega
  have b1 : inner < 9223372036854775808 := by omega
  have b2 : inn < 9223372036854775808 := by omega
  have b3 : inn + border < 9223372036854775808 := by omega
  have b4 : 1 + inn < 9223372036854775808 := by omega
  have b5 : 1 + inn + border < 9223372036854775808 := by omega
  have hw1 := sub_w1 s1 p hp b0
  have hw2 : ∀ z : Int, z = (sh : Int) → wrap64 ((inner : Int) - z) = (inn : Int) := fun z hz => by rw [hz]; exact sub_w inner sh inn hin b1
  have HL := Aside0.mk hl
  have HG := Aside0.mk HG_
  have HD := Aside0.mk hd
  have HZ := Aside0.mk hz
  have HB := Aside0.mk (Below.refl w.heap.size w)
  obtain ⟨ad, Ah, ch, ead, hx, hlh, hCh⟩ := at_L HL.out 0 hnl
  cases ead
  rw [Addr.add_zero'] at hx
  clear hCh hlh hl HG_ hd hz
  by_cases hpw : s1 = 2 ^ sh
  · have hst := HST.out
    clear HST
    rw [if_pos hpw] at hst
    subst hst
    have hpo := pow_wrap sh hsh
    have t5w : ((s1 : Int) == IntKind.u64.wrap ((2 : Int) ^ sh)) = true := beq_iff_eq.2 (by rw [hpo, hpw])
    clear hpw hpo
    have t6_ : ((l.length : Int) != ((inn + border : Nat) : Int)) = true := bne_iff_ne.2 (fun h => hn (by rw [Nat.zero_add]; exact Int.ofNat_inj.1 h))
    have hw3 : ∀ z : Int, z = 0 → wrap64 (z + (inn : Int)) = (inn : Int) := fun z hz => by rw [hz]; exact zero_w inn b2
    have hw4 : ∀ z : Int, z = (border : Int) → wrap64 ((inn : Int) + z) = ((inn + border : Nat) : Int) := fun z hz => by rw [hz]; exact add_w inn border b3
    clear hn
    go_enter Tryd.func60, Tryd.ntmps60
    go_wp2_with (first
      | (go_at_call 93; (with_reducible refine (proof_decompInclProof.calls _ _ _ _ _ HD.out).mono ?_); rintro e w2 ⟨rfl, hb⟩; have HG := Aside0.mk (Glob.below HG.out hb.below); have HB := Aside0.mk (below_then HB.out HB.out.size hb.below); have hx2 := pw_cell_below HB.out hx; clear hb)
      | (go_at_call 89; (with_reducible refine (bits_TrailingZeros64.calls _ _ _ HG.out HZ.out).mono ?_); rintro e w3 ⟨rfl, hb⟩; have HB := Aside0.mk (below_then HB.out HB.out.size hb.below); have hx3 := pw_cell_below HB.out hx; clear hb)
      | (go_at_call 87; (with_reducible refine (errors_New.err _ _).mono ?_); rintro e w4 ⟨x, rfl, hb⟩; have HB := Aside0.mk (below_then HB.out HB.out.size hb); clear hb))
    go_ret
    exact ⟨_, rfl, HB.out⟩
  · have hst := HST.out
    clear HST
    rw [if_neg hpw] at hst
    subst hst
    have hpo := pow_wrap sh hsh
    have t5w : ((s1 : Int) == IntKind.u64.wrap ((2 : Int) ^ sh)) = false := beq_eq_false_iff_ne.2 (by rw [hpo]; exact fun h => hpw (Int.ofNat_inj.1 h))
    clear hpw hpo
    have t6_ : ((l.length : Int) != ((1 + inn + border : Nat) : Int)) = true := bne_iff_ne.2 (fun h => hn (Int.ofNat_inj.1 h))
    have hw3 : ∀ z : Int, z = (inn : Int) → wrap64 (1 + z) = ((1 + inn : Nat) : Int) := fun z hz => by rw [hz]; exact add_w 1 inn b4
    have hw4 : ∀ z : Int, z = (border : Int) → wrap64 (((1 + inn : Nat) : Int) + z) = ((1 + inn + border : Nat) : Int) := fun z hz => by rw [hz]; exact add_w (1 + inn) border b5
    clear hn
    go_enter Tryd.func60, Tryd.ntmps60
    go_wp2_with (first
      | (go_at_call 93; (with_reducible refine (proof_decompInclProof.calls _ _ _ _ _ HD.out).mono ?_); rintro e w2 ⟨rfl, hb⟩; have HG := Aside0.mk (Glob.below HG.out hb.below); have HB := Aside0.mk (below_then HB.out HB.out.size hb.below); have hx2 := pw_cell_below HB.out hx; clear hb)
      | (go_at_call 89; (with_reducible refine (bits_TrailingZeros64.calls _ _ _ HG.out HZ.out).mono ?_); rintro e w3 ⟨rfl, hb⟩; have HB := Aside0.mk (below_then HB.out HB.out.size hb.below); have hx3 := pw_cell_below HB.out hx; clear hb)
      | (go_at_call 87; (with_reducible refine (errors_New.err _ _).mono ?_); rintro e w4 ⟨x, rfl, hb⟩; have HB := Aside0.mk (below_then HB.out HB.out.size hb); clear hb))
    go_ret
    exact ⟨_, rfl, HB.out⟩
end Go.Proofs.YtfhcpniibiobgaaDoor.Qf
namespace Go.Proofs.YtfhcpniibiobgaaDoor.Qf
open Go.RowKit Go.Proofs.YtfhcpniibiobgaaDoorW.PrintWords Go.Proofs.YtfhcpniibiobgaaDoorW.PrintLast Go.Proofs.YtfhcpniibiobgaaDoorW.PrintMore
open Hs (CB CL at_L at_B infoB infoL R_of_blk)


theorem chainRight_n (a0 a1 a2 a3 a4 a5 ix : Int) (A1 : Option Addr) (c1 : Nat) (s : List Int) (A2 : Option Addr) (c2 : Nat) (l : List (List Int)) (n : Nat) (hn : n = l.length) (r : List Int) (w : World) (hs : CB w A1 s) (hsc : s.length ≤ c1) (hl : CL w A2 l) (hll : l.length ≤ 5864062014805) (h : chainR a0 a1 a2 a3 a4 a5 ix l s 0 = some r) :
    Calls Tryd.prog 94 #[toyV a0 a1 a2 a3 a4 a5, .slice A1 s.length c1, .slice A2 n c2, .int .u64 ix] w fun e w' => ∃ A c, e = .returned (.slice A r.length c) ∧ r.length ≤ c ∧ CB w' A r ∧ Below w.heap.size w w' := by
  subst hn
  exact chainRight_calls a0 a1 a2 a3 a4 a5 ix A1 c1 s A2 c2 l r w hs hsc hl hll h
theorem chainInner_n (a0 a1 a2 a3 a4 a5 ix : Int) (A1 : Option Addr) (c1 : Nat) (s : List Int) (A2 : Option Addr) (c2 : Nat) (l : List (List Int)) (n : Nat) (hn : n = l.length) (r : List Int) (w : World) (hs : CB w A1 s) (hsc : s.length ≤ c1) (hl : CL w A2 l) (hll : l.length ≤ 5864062014805) (h : chainI a0 a1 a2 a3 a4 a5 ix l s 0 = some r) :
    Calls Tryd.prog 95 #[toyV a0 a1 a2 a3 a4 a5, .slice A1 s.length c1, .slice A2 n c2, .int .u64 ix] w fun e w' => ∃ A c, e = .returned (.slice A r.length c) ∧ r.length ≤ c ∧ CB w' A r ∧ Below w.heap.size w w' := by
  subst hn
  exact chainInner_calls a0 a1 a2 a3 a4 a5 ix A1 c1 s A2 c2 l r w hs hsc hl hll h
theorem chainBorder_n (a0 a1 a2 a3 a4 a5 : Int) (A1 : Option Addr) (c1 : Nat) (s : List Int) (A2 : Option Addr) (c2 : Nat) (l : List (List Int)) (n : Nat) (hn : n = l.length) (r : List Int) (w : World) (hs : CB w A1 s) (hsc : s.length ≤ c1) (hl : CL w A2 l) (hll : l.length ≤ 5864062014805) (h : chainB a0 a1 a2 a3 a4 a5 l s = some r) :
    Calls Tryd.prog 91 #[toyV a0 a1 a2 a3 a4 a5, .slice A1 s.length c1, .slice A2 n c2] w fun e w' => ∃ A c, e = .returned (.slice A r.length c) ∧ r.length ≤ c ∧ CB w' A r ∧ Below w.heap.size w w' := by
  subst hn
  exact chainBorder_calls a0 a1 a2 a3 a4 a5 A1 c1 s A2 c2 l r w hs hsc hl hll h
set_option maxHeartbeats 2000000 in
set_option maxRecDepth 100000 in
theorem vc_pow_no1 (a0 a1 a2 a3 a4 a5 : Int) (s1 s2 p : Nat) (A : Option Addr) (c : Nat) (l : List (List Int)) (A1 : Option Addr) (c1 : Nat) (r1 : List Int) (A2 : Option Addr) (c2 : Nat) (r2 : List Int) (inner border sh inn : Nat) (q1 q : List Int) (w : World) (hl : CL w A l) (hlc : l.length ≤ c) (hll : l.length ≤ 5864062014805) (h1 : CB w A1 r1) (hc1 : r1.length ≤ c1) (h2 : CB w A2 r2) (hc2 : r2.length ≤ c2) (HG_ : Glob w) (hs1 : 0 < s1) (hs12 : s1 < s2) (hs2 : s2 < 18446744073709551616) (hp : p + 1 = s1) (hnl : 0 < l.length) (hd : proof_decompInclProof.f (p : Int) (s2 : Int) = some ((inner : Int), (border : Int))) (hz : bits_TrailingZeros64.f (s1 : Int) = some (sh : Int)) (hsh : sh < 64) (hin : inn + sh = inner) (hin2 : inner ≤ 64) (hbo : border ≤ 64) (hpw : s1 = 2 ^ sh) (hn : l.length = 0 + inn + border) (e1 : chainR a0 a1 a2 a3 a4 a5 ((p : Int) / 2 ^ min sh 64) (l.take inn) r1 0 = some q1) (e2 : chainB a0 a1 a2 a3 a4 a5 (l.drop inn) q1 = some q) (e3 : sameB q r1 = false) :
    Calls Tryd.prog 60 #[toyV a0 a1 a2 a3 a4 a5, .int .u64 (s1 : Nat), .int .u64 (s2 : Nat), .slice A l.length c, .slice A1 r1.length c1, .slice A2 r2.length c2] w fun e w' => ∃ A' c', e = .returned (.iface 156 (.agg #[.slice A1 r1.length c1, .slice A' q.length c'])) ∧ q.length ≤ c' ∧ CB w' A' q ∧ Below w.heap.size w w' := by
  have hpo := pow_wrap sh hsh
  have t5w : ((s1 : Int) == IntKind.u64.wrap ((2 : Int) ^ min sh 64)) = true := beq_iff_eq.2 (by rw [Nat.min_eq_left (by omega), hpo, hpw])
  clear hpw hpo
  have t1_ : decide (s2 < s1) = false := decide_eq_false (by omega)
  have t1i : decide ((s2 : Int) < (s1 : Int)) = false := decide_eq_false (by omega)
  have t2_ : (s1 == s2) = false := beq_eq_false_iff_ne.2 (by omega)
  have t2i : ((s1 : Int) == (s2 : Int)) = false := beq_eq_false_iff_ne.2 (by omega)
  have t3_ : (s1 == 0) = false := beq_eq_false_iff_ne.2 (by omega)
  have t3i : ((s1 : Int) == 0) = false := beq_eq_false_iff_ne.2 (by omega)
  have t4_ : (l.length == 0) = false := beq_eq_false_iff_ne.2 (by omega)
  have t4i : ((l.length : Int) == 0) = false := beq_eq_false_iff_ne.2 (by omega)
  have b0 : s1 < 18446744073709551616 := by omega
  have b1 : inner < 9223372036854775808 := by omega
  have b2 : inn < 9223372036854775808 := by omega
  have b3 : inn + border < 9223372036854775808 := by omega
  have b4 : 1 + inn < 9223372036854775808 := by omega
  have b5 : 1 + inn + border < 9223372036854775808 := by omega
  have t6_ : ((l.length : Int) != ((inn + border : Nat) : Int)) = false := bne_eq_false_iff_eq.2 (by omega)
  have HL := Aside0.mk hl
  have H1 := Aside0.mk h1
  have H2 := Aside0.mk h2
  have HG := Aside0.mk HG_
  have HD := Aside0.mk hd
  have HZ := Aside0.mk hz
  have HB := Aside0.mk (Below.refl w.heap.size w)
  obtain ⟨ad, Ah, ch, ead, hx, hlh, hCh⟩ := at_L HL.out 0 hnl
  cases ead
  rw [Addr.add_zero'] at hx
  have HCh := Aside0.mk hCh
  have HLh := Aside0.mk hlh
  clear hCh hlh
  obtain ⟨iL, hiL, hsL⟩ := Option.map_eq_some_iff.1 infoL
  simp only [Prod.mk.injEq] at hsL
  have HK := HL
  have HKC : Aside0 (l.length ≤ c) := ⟨hlc⟩
  have HKN : Aside0 (l.length = inn + border) := ⟨by omega⟩
  have HSD := H1
  have HSC : Aside0 (r1.length ≤ c1) := ⟨hc1⟩
  have hcut1 : ∀ W : World, (Instr.slice 25 (.slice (some ad) l.length c) none (some (.int .i64 (inn : Int))) none).run Tryd.prog W = .ok (.slice (some ad) (l.take inn).length c) W := fun W => by
    have h := cut_to (P := Tryd.prog) 25 28 .i64 Tryd.underlying25 hiL (some ad) l.length c (inn : Int) (by omega) (by have := HKN.out; omega) HKC.out W
    rw [Int.toNat_natCast] at h
    rw [show (l.take inn).length = inn by rw [List.length_take]; have := HKN.out; omega]
    exact h
  have hcut2 : ∀ W : World, (Instr.slice 25 (.slice (some ad) l.length c) (some (.int .i64 (inn : Int))) none none).run Tryd.prog W = .ok (.slice (if c = inn then (some ad) else ((some ad) : Option Addr).map (·.add (inn * 1))) (l.drop inn).length (c - inn)) W := fun W => by
    have h := cut_from (P := Tryd.prog) 25 28 .i64 Tryd.underlying25 hiL 1 hsL.2.1 (some ad) l.length c (inn : Int) (by omega) (by have := HKN.out; omega) W
    rw [Int.toNat_natCast] at h
    rw [List.length_drop]
    exact h
  have HT := Aside0.mk (Kd.C_take (m := inn) HK.out (by have := HKN.out; omega))
  have HR : Aside0 (CL w (if c = inn then (some ad) else ((some ad) : Option Addr).map (·.add (inn * 1))) (l.drop inn)) := ⟨Kd.C_drop (m := inn) (c := c) HK.out (by have := HKN.out; omega) HKC.out⟩
  generalize (if c = inn then (some ad) else ((some ad) : Option Addr).map (·.add (inn * 1))) = Ax at hcut2 HR
  have HTL : Aside0 ((l.take inn).length ≤ 64) := ⟨by rw [List.length_take]; omega⟩
  have HTE : Aside0 ((l.take inn).length = inn) := ⟨by rw [List.length_take]; have := HKN.out; omega⟩
  have HDE : Aside0 ((l.drop inn).length = border) := ⟨by rw [List.length_drop]; have := HKN.out; omega⟩
  have HDL : Aside0 ((l.drop inn).length ≤ 64) := ⟨by rw [List.length_drop]; have := HKN.out; omega⟩
  have E1 := Aside0.mk e1
  have E2 := Aside0.mk e2
  have E3 := Aside0.mk e3
  have H1C := Aside0.mk hc1
  have H2C := Aside0.mk hc2
  generalize l.take inn = lt at hcut1 HT HTL HTE E1
  generalize l.drop inn = ld at hcut2 HR HDL HDE E2
  have hw1 := sub_w1 s1 p hp b0
  have hsw : ∀ z : Int, z = (sh : Int) → IntKind.u64.wrap z = (sh : Int) := fun z hz => by rw [hz]; show (sh : Int) % 18446744073709551616 = _; omega
  have hw2 : ∀ z : Int, z = (sh : Int) → wrap64 ((inner : Int) - z) = (inn : Int) := fun z hz => by rw [hz]; exact sub_w inner sh inn hin b1
  have hw3 : ∀ z : Int, z = (inn : Int) → wrap64 z = (inn : Int) := fun z hz => by rw [hz]; exact w64_in _ (by omega)
  have hw4 : ∀ z : Int, z = (border : Int) → wrap64 ((inn : Int) + z) = (l.length : Int) := fun z hz => by rw [hz, hn, Nat.zero_add]; exact add_w inn border b3
  clear b0 b1 b2 b3 b4 b5 e1 e2 e3 hn hs12 hs2 hp hll hlc hin hin2 hbo hs1 hc1 hc2 hl h1 h2 HG_ hd hz hiL hsL HK HKC HKN hsh
  go_enter Tryd.func60, Tryd.ntmps60
  go_wp2_with (first
    | (go_at_call 93; (with_reducible refine (proof_decompInclProof.calls _ _ _ _ _ HD.out).mono ?_); rintro e w2 ⟨rfl, hb⟩; have HG := Aside0.mk (Glob.below HG.out hb.below); have HB := Aside0.mk (below_then HB.out HB.out.size hb.below); have hx2 := pw_cell_below HB.out hx; clear hb)
    | (go_at_call 89; (with_reducible refine (bits_TrailingZeros64.calls _ _ _ HG.out HZ.out).mono ?_); rintro e w3 ⟨rfl, hb⟩; have HB := Aside0.mk (below_then HB.out HB.out.size hb.below); have hx3 := pw_cell_below HB.out hx; clear hb)
    | (go_at_call 94; (with_reducible refine (chainRight_n a0 a1 a2 a3 a4 a5 _ _ _ r1 _ _ lt _ (by first | rfl | (have := HTE.out; omega)) q1 _ (Kd.C_below HSD.out HB.out) HSC.out (Kd.C_below HT.out HB.out) (by have := HTL.out; omega) E1.out).mono ?_); rintro e w4 ⟨A3, c3, rfl, hl3, hC3, hb⟩; have HB := Aside0.mk (below_then HB.out HB.out.size hb); have HC3 := Aside0.mk hC3; have HL3 := Aside0.mk hl3; clear hC3 hb hl3)
    | (go_at_call 91; (with_reducible refine (chainBorder_n a0 a1 a2 a3 a4 a5 _ _ q1 _ _ ld _ (by first | rfl | (have := HDE.out; omega)) q _ HC3.out HL3.out (Kd.C_below HR.out HB.out) (by have := HDL.out; omega) E2.out).mono ?_); rintro e w5 ⟨A4, c4, rfl, hl4, hC4, hb⟩; have HB := Aside0.mk (below_then HB.out HB.out.size hb); have HC4 := Aside0.mk hC4; have HL4 := Aside0.mk hl4; clear hC4 hb hl4)
    | (go_at_call 92; (with_reducible refine (match_no _ _ q _ _ r1 _ HC4.out HL4.out (Kd.C_below H1.out HB.out) H1C.out E3.out).mono ?_); rintro e w6 ⟨rfl, hb⟩; have HB := Aside0.mk (below_then HB.out HB.out.size hb); have HC4 := Aside0.mk (Kd.C_below HC4.out hb); clear hb))
  go_ret
  exact ⟨_, _, rfl, HL4.out, HC4.out, HB.out⟩

set_option maxHeartbeats 2000000 in
set_option maxRecDepth 100000 in
theorem vc_pow_no2 (a0 a1 a2 a3 a4 a5 : Int) (s1 s2 p : Nat) (A : Option Addr) (c : Nat) (l : List (List Int)) (A1 : Option Addr) (c1 : Nat) (r1 : List Int) (A2 : Option Addr) (c2 : Nat) (r2 : List Int) (inner border sh inn : Nat) (q1 q : List Int) (t1 t : List Int) (w : World) (hl : CL w A l) (hlc : l.length ≤ c) (hll : l.length ≤ 5864062014805) (h1 : CB w A1 r1) (hc1 : r1.length ≤ c1) (h2 : CB w A2 r2) (hc2 : r2.length ≤ c2) (HG_ : Glob w) (hs1 : 0 < s1) (hs12 : s1 < s2) (hs2 : s2 < 18446744073709551616) (hp : p + 1 = s1) (hnl : 0 < l.length) (hd : proof_decompInclProof.f (p : Int) (s2 : Int) = some ((inner : Int), (border : Int))) (hz : bits_TrailingZeros64.f (s1 : Int) = some (sh : Int)) (hsh : sh < 64) (hin : inn + sh = inner) (hin2 : inner ≤ 64) (hbo : border ≤ 64) (hpw : s1 = 2 ^ sh) (hn : l.length = 0 + inn + border) (e1 : chainR a0 a1 a2 a3 a4 a5 ((p : Int) / 2 ^ min sh 64) (l.take inn) r1 0 = some q1) (e2 : chainB a0 a1 a2 a3 a4 a5 (l.drop inn) q1 = some q) (e3 : sameB q r1 = true) (e4 : chainI a0 a1 a2 a3 a4 a5 ((p : Int) / 2 ^ min sh 64) (l.take inn) r1 0 = some t1) (e5 : chainB a0 a1 a2 a3 a4 a5 (l.drop inn) t1 = some t) (e6 : sameB t r2 = false) :
    Calls Tryd.prog 60 #[toyV a0 a1 a2 a3 a4 a5, .int .u64 (s1 : Nat), .int .u64 (s2 : Nat), .slice A l.length c, .slice A1 r1.length c1, .slice A2 r2.length c2] w fun e w' => ∃ A' c', e = .returned (.iface 156 (.agg #[.slice A2 r2.length c2, .slice A' t.length c'])) ∧ t.length ≤ c' ∧ CB w' A' t ∧ Below w.heap.size w w' := by
  have hpo := pow_wrap sh hsh
  have t5w : ((s1 : Int) == IntKind.u64.wrap ((2 : Int) ^ min sh 64)) = true := beq_iff_eq.2 (by rw [Nat.min_eq_left (by omega), hpo, hpw])
  clear hpw hpo
  have t1_ : decide (s2 < s1) = false := decide_eq_false (by omega)
  have t1i : decide ((s2 : Int) < (s1 : Int)) = false := decide_eq_false (by omega)
  have t2_ : (s1 == s2) = false := beq_eq_false_iff_ne.2 (by omega)
  have t2i : ((s1 : Int) == (s2 : Int)) = false := beq_eq_false_iff_ne.2 (by omega)
  have t3_ : (s1 == 0) = false := beq_eq_false_iff_ne.2 (by omega)
  have t3i : ((s1 : Int) == 0) = false := beq_eq_false_iff_ne.2 (by omega)
  have t4_ : (l.length == 0) = false := beq_eq_false_iff_ne.2 (by omega)
  have t4i : ((l.length : Int) == 0) = false := beq_eq_false_iff_ne.2 (by omega)
  have b0 : s1 < 18446744073709551616 := by omega
  have b1 : inner < 9223372036854775808 := by omega
  have b2 : inn < 9223372036854775808 := by omega
  have b3 : inn + border < 9223372036854775808 := by omega
  have b4 : 1 + inn < 9223372036854775808 := by omega
  have b5 : 1 + inn + border < 9223372036854775808 := by omega
  have t6_ : ((l.length : Int) != ((inn + border : Nat) : Int)) = false := bne_eq_false_iff_eq.2 (by omega)
  have HL := Aside0.mk hl
  have H1 := Aside0.mk h1
  have H2 := Aside0.mk h2
  have HG := Aside0.mk HG_
  have HD := Aside0.mk hd
  have HZ := Aside0.mk hz
  have HB := Aside0.mk (Below.refl w.heap.size w)
  obtain ⟨ad, Ah, ch, ead, hx, hlh, hCh⟩ := at_L HL.out 0 hnl
  cases ead
  rw [Addr.add_zero'] at hx
  have HCh := Aside0.mk hCh
  have HLh := Aside0.mk hlh
  clear hCh hlh
  obtain ⟨iL, hiL, hsL⟩ := Option.map_eq_some_iff.1 infoL
  simp only [Prod.mk.injEq] at hsL
  have HK := HL
  have HKC : Aside0 (l.length ≤ c) := ⟨hlc⟩
  have HKN : Aside0 (l.length = inn + border) := ⟨by omega⟩
  have HSD := H1
  have HSC : Aside0 (r1.length ≤ c1) := ⟨hc1⟩
  have hcut1 : ∀ W : World, (Instr.slice 25 (.slice (some ad) l.length c) none (some (.int .i64 (inn : Int))) none).run Tryd.prog W = .ok (.slice (some ad) (l.take inn).length c) W := fun W => by
    have h := cut_to (P := Tryd.prog) 25 28 .i64 Tryd.underlying25 hiL (some ad) l.length c (inn : Int) (by omega) (by have := HKN.out; omega) HKC.out W
    rw [Int.toNat_natCast] at h
    rw [show (l.take inn).length = inn by rw [List.length_take]; have := HKN.out; omega]
    exact h
  have hcut2 : ∀ W : World, (Instr.slice 25 (.slice (some ad) l.length c) (some (.int .i64 (inn : Int))) none none).run Tryd.prog W = .ok (.slice (if c = inn then (some ad) else ((some ad) : Option Addr).map (·.add (inn * 1))) (l.drop inn).length (c - inn)) W := fun W => by
    have h := cut_from (P := Tryd.prog) 25 28 .i64 Tryd.underlying25 hiL 1 hsL.2.1 (some ad) l.length c (inn : Int) (by omega) (by have := HKN.out; omega) W
    rw [Int.toNat_natCast] at h
    rw [List.length_drop]
    exact h
  have HT := Aside0.mk (Kd.C_take (m := inn) HK.out (by have := HKN.out; omega))
  have HR : Aside0 (CL w (if c = inn then (some ad) else ((some ad) : Option Addr).map (·.add (inn * 1))) (l.drop inn)) := ⟨Kd.C_drop (m := inn) (c := c) HK.out (by have := HKN.out; omega) HKC.out⟩
  generalize (if c = inn then (some ad) else ((some ad) : Option Addr).map (·.add (inn * 1))) = Ax at hcut2 HR
  have HTL : Aside0 ((l.take inn).length ≤ 64) := ⟨by rw [List.length_take]; omega⟩
  have HTE : Aside0 ((l.take inn).length = inn) := ⟨by rw [List.length_take]; have := HKN.out; omega⟩
  have HDE : Aside0 ((l.drop inn).length = border) := ⟨by rw [List.length_drop]; have := HKN.out; omega⟩
  have HDL : Aside0 ((l.drop inn).length ≤ 64) := ⟨by rw [List.length_drop]; have := HKN.out; omega⟩
  have E1 := Aside0.mk e1
  have E2 := Aside0.mk e2
  have E3 := Aside0.mk e3
  have E4 := Aside0.mk e4
  have E5 := Aside0.mk e5
  have E6 := Aside0.mk e6
  clear e4 e5 e6
  have H1C := Aside0.mk hc1
  have H2C := Aside0.mk hc2
  generalize l.take inn = lt at hcut1 HT HTL HTE E1 E4
  generalize l.drop inn = ld at hcut2 HR HDL HDE E2 E5
  have hw1 := sub_w1 s1 p hp b0
  have hsw : ∀ z : Int, z = (sh : Int) → IntKind.u64.wrap z = (sh : Int) := fun z hz => by rw [hz]; show (sh : Int) % 18446744073709551616 = _; omega
  have hw2 : ∀ z : Int, z = (sh : Int) → wrap64 ((inner : Int) - z) = (inn : Int) := fun z hz => by rw [hz]; exact sub_w inner sh inn hin b1
  have hw3 : ∀ z : Int, z = (inn : Int) → wrap64 z = (inn : Int) := fun z hz => by rw [hz]; exact w64_in _ (by omega)
  have hw4 : ∀ z : Int, z = (border : Int) → wrap64 ((inn : Int) + z) = (l.length : Int) := fun z hz => by rw [hz, hn, Nat.zero_add]; exact add_w inn border b3
  clear b0 b1 b2 b3 b4 b5 e1 e2 e3 hn hs12 hs2 hp hll hlc hin hin2 hbo hs1 hc1 hc2 hl h1 h2 HG_ hd hz hiL hsL HK HKC HKN hsh
  go_enter Tryd.func60, Tryd.ntmps60
  go_wp2_with (first
    | (go_at_call 93; (with_reducible refine (proof_decompInclProof.calls _ _ _ _ _ HD.out).mono ?_); rintro e w2 ⟨rfl, hb⟩; have HG := Aside0.mk (Glob.below HG.out hb.below); have HB := Aside0.mk (below_then HB.out HB.out.size hb.below); have hx2 := pw_cell_below HB.out hx; clear hb)
    | (go_at_call 89; (with_reducible refine (bits_TrailingZeros64.calls _ _ _ HG.out HZ.out).mono ?_); rintro e w3 ⟨rfl, hb⟩; have HB := Aside0.mk (below_then HB.out HB.out.size hb.below); have hx3 := pw_cell_below HB.out hx; clear hb)
    | (go_at_call 94; (with_reducible refine (chainRight_n a0 a1 a2 a3 a4 a5 _ _ _ r1 _ _ lt _ (by first | rfl | (have := HTE.out; omega)) q1 _ (Kd.C_below HSD.out HB.out) HSC.out (Kd.C_below HT.out HB.out) (by have := HTL.out; omega) E1.out).mono ?_); rintro e w4 ⟨A3, c3, rfl, hl3, hC3, hb⟩; have HB := Aside0.mk (below_then HB.out HB.out.size hb); have HC3 := Aside0.mk hC3; have HL3 := Aside0.mk hl3; clear hC3 hb hl3)
    | (go_at_call 91; (with_reducible refine (chainBorder_n a0 a1 a2 a3 a4 a5 _ _ q1 _ _ ld _ (by first | rfl | (have := HDE.out; omega)) q _ HC3.out HL3.out (Kd.C_below HR.out HB.out) (by have := HDL.out; omega) E2.out).mono ?_); rintro e w5 ⟨A4, c4, rfl, hl4, hC4, hb⟩; have HB := Aside0.mk (below_then HB.out HB.out.size hb); have HC4 := Aside0.mk hC4; have HL4 := Aside0.mk hl4; clear hC4 hb hl4)
    | (go_at_call 92; (with_reducible refine (match_yes _ _ q _ _ r1 _ HC4.out HL4.out (Kd.C_below H1.out HB.out) H1C.out E3.out).mono ?_); rintro e w6 ⟨rfl, hb⟩; have HB := Aside0.mk (below_then HB.out HB.out.size hb); clear hb)
    | (go_at_call 95; (with_reducible refine (chainInner_n a0 a1 a2 a3 a4 a5 _ _ _ r1 _ _ lt _ (by first | rfl | (have := HTE.out; omega)) t1 _ (Kd.C_below HSD.out HB.out) HSC.out (Kd.C_below HT.out HB.out) (by have := HTL.out; omega) E4.out).mono ?_); rintro e w7 ⟨A5, c5, rfl, hl5, hC5, hb⟩; have HB := Aside0.mk (below_then HB.out HB.out.size hb); have HC5 := Aside0.mk hC5; have HL5 := Aside0.mk hl5; clear hC5 hb hl5)
    | (go_at_call 91; (with_reducible refine (chainBorder_n a0 a1 a2 a3 a4 a5 _ _ t1 _ _ ld _ (by first | rfl | (have := HDE.out; omega)) t _ HC5.out HL5.out (Kd.C_below HR.out HB.out) (by have := HDL.out; omega) E5.out).mono ?_); rintro e w8 ⟨A6, c6, rfl, hl6, hC6, hb⟩; have HB := Aside0.mk (below_then HB.out HB.out.size hb); have HC6 := Aside0.mk hC6; have HL6 := Aside0.mk hl6; clear hC6 hb hl6)
    | (go_at_call 92; (with_reducible refine (match_no _ _ t _ _ r2 _ HC6.out HL6.out (Kd.C_below H2.out HB.out) H2C.out E6.out).mono ?_); rintro e w9 ⟨rfl, hb⟩; have HB := Aside0.mk (below_then HB.out HB.out.size hb); have HC6 := Aside0.mk (Kd.C_below HC6.out hb); clear hb))
  go_ret
  exact ⟨_, _, rfl, HL6.out, HC6.out, HB.out⟩

set_option maxHeartbeats 2000000 in
set_option maxRecDepth 100000 in
theorem vc_pow_yes (a0 a1 a2 a3 a4 a5 : Int) (s1 s2 p : Nat) (A : Option Addr) (c : Nat) (l : List (List Int)) (A1 : Option Addr) (c1 : Nat) (r1 : List Int) (A2 : Option Addr) (c2 : Nat) (r2 : List Int) (inner border sh inn : Nat) (q1 q : List Int) (t1 t : List Int) (w : World) (hl : CL w A l) (hlc : l.length ≤ c) (hll : l.length ≤ 5864062014805) (h1 : CB w A1 r1) (hc1 : r1.length ≤ c1) (h2 : CB w A2 r2) (hc2 : r2.length ≤ c2) (HG_ : Glob w) (hs1 : 0 < s1) (hs12 : s1 < s2) (hs2 : s2 < 18446744073709551616) (hp : p + 1 = s1) (hnl : 0 < l.length) (hd : proof_decompInclProof.f (p : Int) (s2 : Int) = some ((inner : Int), (border : Int))) (hz : bits_TrailingZeros64.f (s1 : Int) = some (sh : Int)) (hsh : sh < 64) (hin : inn + sh = inner) (hin2 : inner ≤ 64) (hbo : border ≤ 64) (hpw : s1 = 2 ^ sh) (hn : l.length = 0 + inn + border) (e1 : chainR a0 a1 a2 a3 a4 a5 ((p : Int) / 2 ^ min sh 64) (l.take inn) r1 0 = some q1) (e2 : chainB a0 a1 a2 a3 a4 a5 (l.drop inn) q1 = some q) (e3 : sameB q r1 = true) (e4 : chainI a0 a1 a2 a3 a4 a5 ((p : Int) / 2 ^ min sh 64) (l.take inn) r1 0 = some t1) (e5 : chainB a0 a1 a2 a3 a4 a5 (l.drop inn) t1 = some t) (e6 : sameB t r2 = true) :
    Calls Tryd.prog 60 #[toyV a0 a1 a2 a3 a4 a5, .int .u64 (s1 : Nat), .int .u64 (s2 : Nat), .slice A l.length c, .slice A1 r1.length c1, .slice A2 r2.length c2] w fun e w' => e = .returned .nilIface ∧ Below w.heap.size w w' := by
  have hpo := pow_wrap sh hsh
  have t5w : ((s1 : Int) == IntKind.u64.wrap ((2 : Int) ^ min sh 64)) = true := beq_iff_eq.2 (by rw [Nat.min_eq_left (by omega), hpo, hpw])
  clear hpw hpo
  have t1_ : decide (s2 < s1) = false := decide_eq_false (by omega)
  have t1i : decide ((s2 : Int) < (s1 : Int)) = false := decide_eq_false (by omega)
  have t2_ : (s1 == s2) = false := beq_eq_false_iff_ne.2 (by omega)
  have t2i : ((s1 : Int) == (s2 : Int)) = false := beq_eq_false_iff_ne.2 (by omega)
  have t3_ : (s1 == 0) = false := beq_eq_false_iff_ne.2 (by omega)
  have t3i : ((s1 : Int) == 0) = false := beq_eq_false_iff_ne.2 (by omega)
  have t4_ : (l.length == 0) = false := beq_eq_false_iff_ne.2 (by omega)
  have t4i : ((l.length : Int) == 0) = false := beq_eq_false_iff_ne.2 (by omega)
  have b0 : s1 < 18446744073709551616 := by omega
  have b1 : inner < 9223372036854775808 := by omega
  have b2 : inn < 9223372036854775808 := by omega
  have b3 : inn + border < 9223372036854775808 := by omega
  have b4 : 1 + inn < 9223372036854775808 := by omega
  have b5 : 1 + inn + border < 9223372036854775808 := by omega
  have t6_ : ((l.length : Int) != ((inn + border : Nat) : Int)) = false := bne_eq_false_iff_eq.2 (by omega)
  have HL := Aside0.mk hl
  have H1 := Aside0.mk h1
  have H2 := Aside0.mk h2
  have HG := Aside0.mk HG_
  have HD := Aside0.mk hd
  have HZ := Aside0.mk hz
  have HB := Aside0.mk (Below.refl w.heap.size w)
  obtain ⟨ad, Ah, ch, ead, hx, hlh, hCh⟩ := at_L HL.out 0 hnl
  cases ead
  rw [Addr.add_zero'] at hx
  have HCh := Aside0.mk hCh
  have HLh := Aside0.mk hlh
  clear hCh hlh
  obtain ⟨iL, hiL, hsL⟩ := Option.map_eq_some_iff.1 infoL
  simp only [Prod.mk.injEq] at hsL
  have HK := HL
  have HKC : Aside0 (l.length ≤ c) := ⟨hlc⟩
  have HKN : Aside0 (l.length = inn + border) := ⟨by omega⟩
  have HSD := H1
  have HSC : Aside0 (r1.length ≤ c1) := ⟨hc1⟩
  have hcut1 : ∀ W : World, (Instr.slice 25 (.slice (some ad) l.length c) none (some (.int .i64 (inn : Int))) none).run Tryd.prog W = .ok (.slice (some ad) (l.take inn).length c) W := fun W => by
    have h := cut_to (P := Tryd.prog) 25 28 .i64 Tryd.underlying25 hiL (some ad) l.length c (inn : Int) (by omega) (by have := HKN.out; omega) HKC.out W
    rw [Int.toNat_natCast] at h
    rw [show (l.take inn).length = inn by rw [List.length_take]; have := HKN.out; omega]
    exact h
  have hcut2 : ∀ W : World, (Instr.slice 25 (.slice (some ad) l.length c) (some (.int .i64 (inn : Int))) none none).run Tryd.prog W = .ok (.slice (if c = inn then (some ad) else ((some ad) : Option Addr).map (·.add (inn * 1))) (l.drop inn).length (c - inn)) W := fun W => by
    have h := cut_from (P := Tryd.prog) 25 28 .i64 Tryd.underlying25 hiL 1 hsL.2.1 (some ad) l.length c (inn : Int) (by omega) (by have := HKN.out; omega) W
    rw [Int.toNat_natCast] at h
    rw [List.length_drop]
    exact h
  have HT := Aside0.mk (Kd.C_take (m := inn) HK.out (by have := HKN.out; omega))
  have HR : Aside0 (CL w (if c = inn then (some ad) else ((some ad) : Option Addr).map (·.add (inn * 1))) (l.drop inn)) := ⟨Kd.C_drop (m := inn) (c := c) HK.out (by have := HKN.out; omega) HKC.out⟩
  generalize (if c = inn then (some ad) else ((some ad) : Option Addr).map (·.add (inn * 1))) = Ax at hcut2 HR
  have HTL : Aside0 ((l.take inn).length ≤ 64) := ⟨by rw [List.length_take]; omega⟩
  have HTE : Aside0 ((l.take inn).length = inn) := ⟨by rw [List.length_take]; have := HKN.out; omega⟩
  have HDE : Aside0 ((l.drop inn).length = border) := ⟨by rw [List.length_drop]; have := HKN.out; omega⟩
  have HDL : Aside0 ((l.drop inn).length ≤ 64) := ⟨by rw [List.length_drop]; have := HKN.out; omega⟩
  have E1 := Aside0.mk e1
  have E2 := Aside0.mk e2
  have E3 := Aside0.mk e3
  have E4 := Aside0.mk e4
  have E5 := Aside0.mk e5
  have E6 := Aside0.mk e6
  clear e4 e5 e6
  have H1C := Aside0.mk hc1
  have H2C := Aside0.mk hc2
  generalize l.take inn = lt at hcut1 HT HTL HTE E1 E4
  generalize l.drop inn = ld at hcut2 HR HDL HDE E2 E5
  have hw1 := sub_w1 s1 p hp b0
  have hsw : ∀ z : Int, z = (sh : Int) → IntKind.u64.wrap z = (sh : Int) := fun z hz => by rw [hz]; show (sh : Int) % 18446744073709551616 = _; omega
  have hw2 : ∀ z : Int, z = (sh : Int) → wrap64 ((inner : Int) - z) = (inn : Int) := fun z hz => by rw [hz]; exact sub_w inner sh inn hin b1
  have hw3 : ∀ z : Int, z = (inn : Int) → wrap64 z = (inn : Int) := fun z hz => by rw [hz]; exact w64_in _ (by omega)
  have hw4 : ∀ z : Int, z = (border : Int) → wrap64 ((inn : Int) + z) = (l.length : Int) := fun z hz => by rw [hz, hn, Nat.zero_add]; exact add_w inn border b3
  clear b0 b1 b2 b3 b4 b5 e1 e2 e3 hn hs12 hs2 hp hll hlc hin hin2 hbo hs1 hc1 hc2 hl h1 h2 HG_ hd hz hiL hsL HK HKC HKN hsh
  go_enter Tryd.func60, Tryd.ntmps60
  go_wp2_with (first
    | (go_at_call 93; (with_reducible refine (proof_decompInclProof.calls _ _ _ _ _ HD.out).mono ?_); rintro e w2 ⟨rfl, hb⟩; have HG := Aside0.mk (Glob.below HG.out hb.below); have HB := Aside0.mk (below_then HB.out HB.out.size hb.below); have hx2 := pw_cell_below HB.out hx; clear hb)
    | (go_at_call 89; (with_reducible refine (bits_TrailingZeros64.calls _ _ _ HG.out HZ.out).mono ?_); rintro e w3 ⟨rfl, hb⟩; have HB := Aside0.mk (below_then HB.out HB.out.size hb.below); have hx3 := pw_cell_below HB.out hx; clear hb)
    | (go_at_call 94; (with_reducible refine (chainRight_n a0 a1 a2 a3 a4 a5 _ _ _ r1 _ _ lt _ (by first | rfl | (have := HTE.out; omega)) q1 _ (Kd.C_below HSD.out HB.out) HSC.out (Kd.C_below HT.out HB.out) (by have := HTL.out; omega) E1.out).mono ?_); rintro e w4 ⟨A3, c3, rfl, hl3, hC3, hb⟩; have HB := Aside0.mk (below_then HB.out HB.out.size hb); have HC3 := Aside0.mk hC3; have HL3 := Aside0.mk hl3; clear hC3 hb hl3)
    | (go_at_call 91; (with_reducible refine (chainBorder_n a0 a1 a2 a3 a4 a5 _ _ q1 _ _ ld _ (by first | rfl | (have := HDE.out; omega)) q _ HC3.out HL3.out (Kd.C_below HR.out HB.out) (by have := HDL.out; omega) E2.out).mono ?_); rintro e w5 ⟨A4, c4, rfl, hl4, hC4, hb⟩; have HB := Aside0.mk (below_then HB.out HB.out.size hb); have HC4 := Aside0.mk hC4; have HL4 := Aside0.mk hl4; clear hC4 hb hl4)
    | (go_at_call 92; (with_reducible refine (match_yes _ _ q _ _ r1 _ HC4.out HL4.out (Kd.C_below H1.out HB.out) H1C.out E3.out).mono ?_); rintro e w6 ⟨rfl, hb⟩; have HB := Aside0.mk (below_then HB.out HB.out.size hb); clear hb)
    | (go_at_call 95; (with_reducible refine (chainInner_n a0 a1 a2 a3 a4 a5 _ _ _ r1 _ _ lt _ (by first | rfl | (have := HTE.out; omega)) t1 _ (Kd.C_below HSD.out HB.out) HSC.out (Kd.C_below HT.out HB.out) (by have := HTL.out; omega) E4.out).mono ?_); rintro e w7 ⟨A5, c5, rfl, hl5, hC5, hb⟩; have HB := Aside0.mk (below_then HB.out HB.out.size hb); have HC5 := Aside0.mk hC5; have HL5 := Aside0.mk hl5; clear hC5 hb hl5)
    | (go_at_call 91; (with_reducible refine (chainBorder_n a0 a1 a2 a3 a4 a5 _ _ t1 _ _ ld _ (by first | rfl | (have := HDE.out; omega)) t _ HC5.out HL5.out (Kd.C_below HR.out HB.out) (by have := HDL.out; omega) E5.out).mono ?_); rintro e w8 ⟨A6, c6, rfl, hl6, hC6, hb⟩; have HB := Aside0.mk (below_then HB.out HB.out.size hb); have HC6 := Aside0.mk hC6; have HL6 := Aside0.mk hl6; clear hC6 hb hl6)
    | (go_at_call 92; (with_reducible refine (match_yes _ _ t _ _ r2 _ HC6.out HL6.out (Kd.C_below H2.out HB.out) H2C.out E6.out).mono ?_); rintro e w9 ⟨rfl, hb⟩; have HB := Aside0.mk (below_then HB.out HB.out.size hb); have HC6 := Aside0.mk (Kd.C_below HC6.out hb); clear hb))
  go_ret
  exact ⟨rfl, HB.out⟩

end Go.Proofs.YtfhcpniibiobgaaDoor.Qf
namespace Go.Proofs.YtfhcpniibiobgaaDoor.Qf
open Go.RowKit Go.Proofs.YtfhcpniibiobgaaDoorW.PrintWords Go.Proofs.YtfhcpniibiobgaaDoorW.PrintLast Go.Proofs.YtfhcpniibiobgaaDoorW.PrintMore
open Hs (CB CL at_L at_B infoB infoL R_of_blk)

set_option maxHeartbeats 2000000 in
set_option maxRecDepth 100000 in
theorem vc_odd_no1 (a0 a1 a2 a3 a4 a5 : Int) (s1 s2 p : Nat) (A : Option Addr) (c : Nat) (l : List (List Int)) (A1 : Option Addr) (c1 : Nat) (r1 : List Int) (A2 : Option Addr) (c2 : Nat) (r2 : List Int) (inner border sh inn : Nat) (q1 q : List Int) (w : World) (hl : CL w A l) (hlc : l.length ≤ c) (hll : l.length ≤ 5864062014805) (h1 : CB w A1 r1) (hc1 : r1.length ≤ c1) (h2 : CB w A2 r2) (hc2 : r2.length ≤ c2) (HG_ : Glob w) (hs1 : 0 < s1) (hs12 : s1 < s2) (hs2 : s2 < 18446744073709551616) (hp : p + 1 = s1) (hnl : 0 < l.length) (hd : proof_decompInclProof.f (p : Int) (s2 : Int) = some ((inner : Int), (border : Int))) (hz : bits_TrailingZeros64.f (s1 : Int) = some (sh : Int)) (hsh : sh < 64) (hin : inn + sh = inner) (hin2 : inner ≤ 64) (hbo : border ≤ 64) (hpw : s1 ≠ 2 ^ sh) (hn : l.length = 1 + inn + border) (e1 : chainR a0 a1 a2 a3 a4 a5 ((p : Int) / 2 ^ min sh 64) ((l.drop 1).take inn) (l.getD 0 []) 0 = some q1) (e2 : chainB a0 a1 a2 a3 a4 a5 ((l.drop 1).drop inn) q1 = some q) (e3 : sameB q r1 = false) :
    Calls Tryd.prog 60 #[toyV a0 a1 a2 a3 a4 a5, .int .u64 (s1 : Nat), .int .u64 (s2 : Nat), .slice A l.length c, .slice A1 r1.length c1, .slice A2 r2.length c2] w fun e w' => ∃ A' c', e = .returned (.iface 156 (.agg #[.slice A1 r1.length c1, .slice A' q.length c'])) ∧ q.length ≤ c' ∧ CB w' A' q ∧ Below w.heap.size w w' := by
  have hpo := pow_wrap sh hsh
  have t5w : ((s1 : Int) == IntKind.u64.wrap ((2 : Int) ^ min sh 64)) = false := beq_eq_false_iff_ne.2 (by rw [Nat.min_eq_left (by omega), hpo]; exact fun h => hpw (Int.ofNat_inj.1 h))
  clear hpw hpo
  have t1_ : decide (s2 < s1) = false := decide_eq_false (by omega)
  have t1i : decide ((s2 : Int) < (s1 : Int)) = false := decide_eq_false (by omega)
  have t2_ : (s1 == s2) = false := beq_eq_false_iff_ne.2 (by omega)
  have t2i : ((s1 : Int) == (s2 : Int)) = false := beq_eq_false_iff_ne.2 (by omega)
  have t3_ : (s1 == 0) = false := beq_eq_false_iff_ne.2 (by omega)
  have t3i : ((s1 : Int) == 0) = false := beq_eq_false_iff_ne.2 (by omega)
  have t4_ : (l.length == 0) = false := beq_eq_false_iff_ne.2 (by omega)
  have t4i : ((l.length : Int) == 0) = false := beq_eq_false_iff_ne.2 (by omega)
  have b0 : s1 < 18446744073709551616 := by omega
  have b1 : inner < 9223372036854775808 := by omega
  have b2 : inn < 9223372036854775808 := by omega
  have b3 : inn + border < 9223372036854775808 := by omega
  have b4 : 1 + inn < 9223372036854775808 := by omega
  have b5 : 1 + inn + border < 9223372036854775808 := by omega
  have t6_ : ((l.length : Int) != ((1 + inn + border : Nat) : Int)) = false := bne_eq_false_iff_eq.2 (by omega)
  have HL := Aside0.mk hl
  have H1 := Aside0.mk h1
  have H2 := Aside0.mk h2
  have HG := Aside0.mk HG_
  have HD := Aside0.mk hd
  have HZ := Aside0.mk hz
  have HB := Aside0.mk (Below.refl w.heap.size w)
  obtain ⟨ad, Ah, ch, ead, hx, hlh, hCh⟩ := at_L HL.out 0 hnl
  cases ead
  rw [Addr.add_zero'] at hx
  have HCh := Aside0.mk hCh
  have HLh := Aside0.mk hlh
  clear hCh hlh
  obtain ⟨iL, hiL, hsL⟩ := Option.map_eq_some_iff.1 infoL
  simp only [Prod.mk.injEq] at hsL
  have hcut0 : ∀ W : World, (Instr.slice 25 (.slice (some ad) l.length c) (some (.int .i64 1)) none none).run Tryd.prog W = .ok (.slice (if c = 1 then some ad else (some ad : Option Addr).map (·.add (1 * 1))) (l.drop 1).length (c - 1)) W := fun W => by
    have h := cut_from (P := Tryd.prog) 25 28 .i64 Tryd.underlying25 hiL 1 hsL.2.1 (some ad) l.length c 1 (by omega) (by omega) W
    rw [show ((1 : Int)).toNat = 1 from rfl] at h
    rw [List.length_drop]
    exact h
  have HK : Aside0 (CL w (if c = 1 then some ad else (some ad : Option Addr).map (·.add (1 * 1))) (l.drop 1)) := ⟨Kd.C_drop (m := 1) (c := c) HL.out (by omega) hlc⟩
  generalize (if c = 1 then some ad else (some ad : Option Addr).map (·.add (1 * 1))) = Ab at hcut0 HK
  have HKC : Aside0 ((l.drop 1).length ≤ c - 1) := ⟨by rw [List.length_drop]; omega⟩
  have HKN : Aside0 ((l.drop 1).length = inn + border) := ⟨by rw [List.length_drop]; omega⟩
  generalize l.drop 1 = lk at hcut0 HK HKC HKN e1 e2
  generalize c - 1 = cb at hcut0 HKC
  generalize l.getD 0 [] = sd at hx HCh HLh e1
  have HSD := HCh
  have HSC := HLh
  have hcut1 : ∀ W : World, (Instr.slice 25 (.slice Ab lk.length cb) none (some (.int .i64 (inn : Int))) none).run Tryd.prog W = .ok (.slice Ab (lk.take inn).length cb) W := fun W => by
    have h := cut_to (P := Tryd.prog) 25 28 .i64 Tryd.underlying25 hiL Ab lk.length cb (inn : Int) (by omega) (by have := HKN.out; omega) HKC.out W
    rw [Int.toNat_natCast] at h
    rw [show (lk.take inn).length = inn by rw [List.length_take]; have := HKN.out; omega]
    exact h
  have hcut2 : ∀ W : World, (Instr.slice 25 (.slice Ab lk.length cb) (some (.int .i64 (inn : Int))) none none).run Tryd.prog W = .ok (.slice (if cb = inn then Ab else (Ab : Option Addr).map (·.add (inn * 1))) (lk.drop inn).length (cb - inn)) W := fun W => by
    have h := cut_from (P := Tryd.prog) 25 28 .i64 Tryd.underlying25 hiL 1 hsL.2.1 Ab lk.length cb (inn : Int) (by omega) (by have := HKN.out; omega) W
    rw [Int.toNat_natCast] at h
    rw [List.length_drop]
    exact h
  have HT := Aside0.mk (Kd.C_take (m := inn) HK.out (by have := HKN.out; omega))
  have HR : Aside0 (CL w (if cb = inn then Ab else (Ab : Option Addr).map (·.add (inn * 1))) (lk.drop inn)) := ⟨Kd.C_drop (m := inn) (c := cb) HK.out (by have := HKN.out; omega) HKC.out⟩
  generalize (if cb = inn then Ab else (Ab : Option Addr).map (·.add (inn * 1))) = Ax at hcut2 HR
  have HTL : Aside0 ((lk.take inn).length ≤ 64) := ⟨by rw [List.length_take]; omega⟩
  have HTE : Aside0 ((lk.take inn).length = inn) := ⟨by rw [List.length_take]; have := HKN.out; omega⟩
  have HDE : Aside0 ((lk.drop inn).length = border) := ⟨by rw [List.length_drop]; have := HKN.out; omega⟩
  have HDL : Aside0 ((lk.drop inn).length ≤ 64) := ⟨by rw [List.length_drop]; have := HKN.out; omega⟩
  have E1 := Aside0.mk e1
  have E2 := Aside0.mk e2
  have E3 := Aside0.mk e3
  have H1C := Aside0.mk hc1
  have H2C := Aside0.mk hc2
  generalize lk.take inn = lt at hcut1 HT HTL HTE E1
  generalize lk.drop inn = ld at hcut2 HR HDL HDE E2
  have hw1 := sub_w1 s1 p hp b0
  have hsw : ∀ z : Int, z = (sh : Int) → IntKind.u64.wrap z = (sh : Int) := fun z hz => by rw [hz]; show (sh : Int) % 18446744073709551616 = _; omega
  have hw2 : ∀ z : Int, z = (sh : Int) → wrap64 ((inner : Int) - z) = (inn : Int) := fun z hz => by rw [hz]; exact sub_w inner sh inn hin b1
  have hw3 : ∀ z : Int, z = (inn : Int) → wrap64 (1 + z) = 1 + (inn : Int) := fun z hz => by rw [hz]; exact (add_w 1 inn b4).trans (by omega)
  have hw4 : ∀ z : Int, z = (border : Int) → wrap64 (1 + (inn : Int) + z) = (l.length : Int) := fun z hz => by rw [hz, hn, show (1 : Int) + (inn : Int) = ((1 + inn : Nat) : Int) by omega]; exact add_w (1 + inn) border b5
  clear b0 b1 b2 b3 b4 b5 e1 e2 e3 hn hs12 hs2 hp hll hlc hin hin2 hbo hs1 hc1 hc2 hl h1 h2 HG_ hd hz hiL hsL HK HKC HKN hsh
  go_enter Tryd.func60, Tryd.ntmps60
  go_wp2_with (first
    | (go_at_call 93; (with_reducible refine (proof_decompInclProof.calls _ _ _ _ _ HD.out).mono ?_); rintro e w2 ⟨rfl, hb⟩; have HG := Aside0.mk (Glob.below HG.out hb.below); have HB := Aside0.mk (below_then HB.out HB.out.size hb.below); have hx2 := pw_cell_below HB.out hx; clear hb)
    | (go_at_call 89; (with_reducible refine (bits_TrailingZeros64.calls _ _ _ HG.out HZ.out).mono ?_); rintro e w3 ⟨rfl, hb⟩; have HB := Aside0.mk (below_then HB.out HB.out.size hb.below); have hx3 := pw_cell_below HB.out hx; clear hb)
    | (go_at_call 94; (with_reducible refine (chainRight_n a0 a1 a2 a3 a4 a5 _ _ _ sd _ _ lt _ (by first | rfl | (have := HTE.out; omega)) q1 _ (Kd.C_below HSD.out HB.out) HSC.out (Kd.C_below HT.out HB.out) (by have := HTL.out; omega) E1.out).mono ?_); rintro e w4 ⟨A3, c3, rfl, hl3, hC3, hb⟩; have HB := Aside0.mk (below_then HB.out HB.out.size hb); have HC3 := Aside0.mk hC3; have HL3 := Aside0.mk hl3; clear hC3 hb hl3)
    | (go_at_call 91; (with_reducible refine (chainBorder_n a0 a1 a2 a3 a4 a5 _ _ q1 _ _ ld _ (by first | rfl | (have := HDE.out; omega)) q _ HC3.out HL3.out (Kd.C_below HR.out HB.out) (by have := HDL.out; omega) E2.out).mono ?_); rintro e w5 ⟨A4, c4, rfl, hl4, hC4, hb⟩; have HB := Aside0.mk (below_then HB.out HB.out.size hb); have HC4 := Aside0.mk hC4; have HL4 := Aside0.mk hl4; clear hC4 hb hl4)
    | (go_at_call 92; (with_reducible refine (match_no _ _ q _ _ r1 _ HC4.out HL4.out (Kd.C_below H1.out HB.out) H1C.out E3.out).mono ?_); rintro e w6 ⟨rfl, hb⟩; have HB := Aside0.mk (below_then HB.out HB.out.size hb); have HC4 := Aside0.mk (Kd.C_below HC4.out hb); clear hb))
  go_ret
  exact ⟨_, _, rfl, HL4.out, HC4.out, HB.out⟩

set_option maxHeartbeats 2000000 in
set_option maxRecDepth 100000 in
theorem vc_odd_no2 (a0 a1 a2 a3 a4 a5 : Int) (s1 s2 p : Nat) (A : Option Addr) (c : Nat) (l : List (List Int)) (A1 : Option Addr) (c1 : Nat) (r1 : List Int) (A2 : Option Addr) (c2 : Nat) (r2 : List Int) (inner border sh inn : Nat) (q1 q : List Int) (t1 t : List Int) (w : World) (hl : CL w A l) (hlc : l.length ≤ c) (hll : l.length ≤ 5864062014805) (h1 : CB w A1 r1) (hc1 : r1.length ≤ c1) (h2 : CB w A2 r2) (hc2 : r2.length ≤ c2) (HG_ : Glob w) (hs1 : 0 < s1) (hs12 : s1 < s2) (hs2 : s2 < 18446744073709551616) (hp : p + 1 = s1) (hnl : 0 < l.length) (hd : proof_decompInclProof.f (p : Int) (s2 : Int) = some ((inner : Int), (border : Int))) (hz : bits_TrailingZeros64.f (s1 : Int) = some (sh : Int)) (hsh : sh < 64) (hin : inn + sh = inner) (hin2 : inner ≤ 64) (hbo : border ≤ 64) (hpw : s1 ≠ 2 ^ sh) (hn : l.length = 1 + inn + border) (e1 : chainR a0 a1 a2 a3 a4 a5 ((p : Int) / 2 ^ min sh 64) ((l.drop 1).take inn) (l.getD 0 []) 0 = some q1) (e2 : chainB a0 a1 a2 a3 a4 a5 ((l.drop 1).drop inn) q1 = some q) (e3 : sameB q r1 = true) (e4 : chainI a0 a1 a2 a3 a4 a5 ((p : Int) / 2 ^ min sh 64) ((l.drop 1).take inn) (l.getD 0 []) 0 = some t1) (e5 : chainB a0 a1 a2 a3 a4 a5 ((l.drop 1).drop inn) t1 = some t) (e6 : sameB t r2 = false) :
    Calls Tryd.prog 60 #[toyV a0 a1 a2 a3 a4 a5, .int .u64 (s1 : Nat), .int .u64 (s2 : Nat), .slice A l.length c, .slice A1 r1.length c1, .slice A2 r2.length c2] w fun e w' => ∃ A' c', e = .returned (.iface 156 (.agg #[.slice A2 r2.length c2, .slice A' t.length c'])) ∧ t.length ≤ c' ∧ CB w' A' t ∧ Below w.heap.size w w' := by
  have hpo := pow_wrap sh hsh
  have t5w : ((s1 : Int) == IntKind.u64.wrap ((2 : Int) ^ min sh 64)) = false := beq_eq_false_iff_ne.2 (by rw [Nat.min_eq_left (by omega), hpo]; exact fun h => hpw (Int.ofNat_inj.1 h))
  clear hpw hpo
  have t1_ : decide (s2 < s1) = false := decide_eq_false (by omega)
  have t1i : decide ((s2 : Int) < (s1 : Int)) = false := decide_eq_false (by omega)
  have t2_ : (s1 == s2) = false := beq_eq_false_iff_ne.2 (by omega)
  have t2i : ((s1 : Int) == (s2 : Int)) = false := beq_eq_false_iff_ne.2 (by omega)
  have t3_ : (s1 == 0) = false := beq_eq_false_iff_ne.2 (by omega)
  have t3i : ((s1 : Int) == 0) = false := beq_eq_false_iff_ne.2 (by omega)
  have t4_ : (l.length == 0) = false := beq_eq_false_iff_ne.2 (by omega)
  have t4i : ((l.length : Int) == 0) = false := beq_eq_false_iff_ne.2 (by omega)
  have b0 : s1 < 18446744073709551616 := by omega
  have b1 : inner < 9223372036854775808 := by omega
  have b2 : inn < 9223372036854775808 := by omega
  have b3 : inn + border < 9223372036854775808 := by omega
  have b4 : 1 + inn < 9223372036854775808 := by omega
  have b5 : 1 + inn + border < 9223372036854775808 := by omega
  have t6_ : ((l.length : Int) != ((1 + inn + border : Nat) : Int)) = false := bne_eq_false_iff_eq.2 (by omega)
  have HL := Aside0.mk hl
  have H1 := Aside0.mk h1
  have H2 := Aside0.mk h2
  have HG := Aside0.mk HG_
  have HD := Aside0.mk hd
  have HZ := Aside0.mk hz
  have HB := Aside0.mk (Below.refl w.heap.size w)
  obtain ⟨ad, Ah, ch, ead, hx, hlh, hCh⟩ := at_L HL.out 0 hnl
  cases ead
  rw [Addr.add_zero'] at hx
  have HCh := Aside0.mk hCh
  have HLh := Aside0.mk hlh
  clear hCh hlh
  obtain ⟨iL, hiL, hsL⟩ := Option.map_eq_some_iff.1 infoL
  simp only [Prod.mk.injEq] at hsL
  have hcut0 : ∀ W : World, (Instr.slice 25 (.slice (some ad) l.length c) (some (.int .i64 1)) none none).run Tryd.prog W = .ok (.slice (if c = 1 then some ad else (some ad : Option Addr).map (·.add (1 * 1))) (l.drop 1).length (c - 1)) W := fun W => by
    have h := cut_from (P := Tryd.prog) 25 28 .i64 Tryd.underlying25 hiL 1 hsL.2.1 (some ad) l.length c 1 (by omega) (by omega) W
    rw [show ((1 : Int)).toNat = 1 from rfl] at h
    rw [List.length_drop]
    exact h
  have HK : Aside0 (CL w (if c = 1 then some ad else (some ad : Option Addr).map (·.add (1 * 1))) (l.drop 1)) := ⟨Kd.C_drop (m := 1) (c := c) HL.out (by omega) hlc⟩
  generalize (if c = 1 then some ad else (some ad : Option Addr).map (·.add (1 * 1))) = Ab at hcut0 HK
  have HKC : Aside0 ((l.drop 1).length ≤ c - 1) := ⟨by rw [List.length_drop]; omega⟩
  have HKN : Aside0 ((l.drop 1).length = inn + border) := ⟨by rw [List.length_drop]; omega⟩
  generalize l.drop 1 = lk at hcut0 HK HKC HKN e1 e2 e4 e5
  generalize c - 1 = cb at hcut0 HKC
  generalize l.getD 0 [] = sd at hx HCh HLh e1 e4
  have HSD := HCh
  have HSC := HLh
  have hcut1 : ∀ W : World, (Instr.slice 25 (.slice Ab lk.length cb) none (some (.int .i64 (inn : Int))) none).run Tryd.prog W = .ok (.slice Ab (lk.take inn).length cb) W := fun W => by
    have h := cut_to (P := Tryd.prog) 25 28 .i64 Tryd.underlying25 hiL Ab lk.length cb (inn : Int) (by omega) (by have := HKN.out; omega) HKC.out W
    rw [Int.toNat_natCast] at h
    rw [show (lk.take inn).length = inn by rw [List.length_take]; have := HKN.out; omega]
    exact h
  have hcut2 : ∀ W : World, (Instr.slice 25 (.slice Ab lk.length cb) (some (.int .i64 (inn : Int))) none none).run Tryd.prog W = .ok (.slice (if cb = inn then Ab else (Ab : Option Addr).map (·.add (inn * 1))) (lk.drop inn).length (cb - inn)) W := fun W => by
    have h := cut_from (P := Tryd.prog) 25 28 .i64 Tryd.underlying25 hiL 1 hsL.2.1 Ab lk.length cb (inn : Int) (by omega) (by have := HKN.out; omega) W
    rw [Int.toNat_natCast] at h
    rw [List.length_drop]
    exact h
  have HT := Aside0.mk (Kd.C_take (m := inn) HK.out (by have := HKN.out; omega))
  have HR : Aside0 (CL w (if cb = inn then Ab else (Ab : Option Addr).map (·.add (inn * 1))) (lk.drop inn)) := ⟨Kd.C_drop (m := inn) (c := cb) HK.out (by have := HKN.out; omega) HKC.out⟩
  generalize (if cb = inn then Ab else (Ab : Option Addr).map (·.add (inn * 1))) = Ax at hcut2 HR
  have HTL : Aside0 ((lk.take inn).length ≤ 64) := ⟨by rw [List.length_take]; omega⟩
  have HTE : Aside0 ((lk.take inn).length = inn) := ⟨by rw [List.length_take]; have := HKN.out; omega⟩
  have HDE : Aside0 ((lk.drop inn).length = border) := ⟨by rw [List.length_drop]; have := HKN.out; omega⟩
  have HDL : Aside0 ((lk.drop inn).length ≤ 64) := ⟨by rw [List.length_drop]; have := HKN.out; omega⟩
  have E1 := Aside0.mk e1
  have E2 := Aside0.mk e2
  have E3 := Aside0.mk e3
  have E4 := Aside0.mk e4
  have E5 := Aside0.mk e5
  have E6 := Aside0.mk e6
  clear e4 e5 e6
  have H1C := Aside0.mk hc1
  have H2C := Aside0.mk hc2
  generalize lk.take inn = lt at hcut1 HT HTL HTE E1 E4
  generalize lk.drop inn = ld at hcut2 HR HDL HDE E2 E5
  have hw1 := sub_w1 s1 p hp b0
  have hsw : ∀ z : Int, z = (sh : Int) → IntKind.u64.wrap z = (sh : Int) := fun z hz => by rw [hz]; show (sh : Int) % 18446744073709551616 = _; omega
  have hw2 : ∀ z : Int, z = (sh : Int) → wrap64 ((inner : Int) - z) = (inn : Int) := fun z hz => by rw [hz]; exact sub_w inner sh inn hin b1
  have hw3 : ∀ z : Int, z = (inn : Int) → wrap64 (1 + z) = 1 + (inn : Int) := fun z hz => by rw [hz]; exact (add_w 1 inn b4).trans (by omega)
  have hw4 : ∀ z : Int, z = (border : Int) → wrap64 (1 + (inn : Int) + z) = (l.length : Int) := fun z hz => by rw [hz, hn, show (1 : Int) + (inn : Int) = ((1 + inn : Nat) : Int) by omega]; exact add_w (1 + inn) border b5
  clear b0 b1 b2 b3 b4 b5 e1 e2 e3 hn hs12 hs2 hp hll hlc hin hin2 hbo hs1 hc1 hc2 hl h1 h2 HG_ hd hz hiL hsL HK HKC HKN hsh
  go_enter Tryd.func60, Tryd.ntmps60
  go_wp2_with (first
    | (go_at_call 93; (with_reducible refine (proof_decompInclProof.calls _ _ _ _ _ HD.out).mono ?_); rintro e w2 ⟨rfl, hb⟩; have HG := Aside0.mk (Glob.below HG.out hb.below); have HB := Aside0.mk (below_then HB.out HB.out.size hb.below); have hx2 := pw_cell_below HB.out hx; clear hb)
    | (go_at_call 89; (with_reducible refine (bits_TrailingZeros64.calls _ _ _ HG.out HZ.out).mono ?_); rintro e w3 ⟨rfl, hb⟩; have HB := Aside0.mk (below_then HB.out HB.out.size hb.below); have hx3 := pw_cell_below HB.out hx; clear hb)
    | (go_at_call 94; (with_reducible refine (chainRight_n a0 a1 a2 a3 a4 a5 _ _ _ sd _ _ lt _ (by first | rfl | (have := HTE.out; omega)) q1 _ (Kd.C_below HSD.out HB.out) HSC.out (Kd.C_below HT.out HB.out) (by have := HTL.out; omega) E1.out).mono ?_); rintro e w4 ⟨A3, c3, rfl, hl3, hC3, hb⟩; have HB := Aside0.mk (below_then HB.out HB.out.size hb); have HC3 := Aside0.mk hC3; have HL3 := Aside0.mk hl3; clear hC3 hb hl3)
    | (go_at_call 91; (with_reducible refine (chainBorder_n a0 a1 a2 a3 a4 a5 _ _ q1 _ _ ld _ (by first | rfl | (have := HDE.out; omega)) q _ HC3.out HL3.out (Kd.C_below HR.out HB.out) (by have := HDL.out; omega) E2.out).mono ?_); rintro e w5 ⟨A4, c4, rfl, hl4, hC4, hb⟩; have HB := Aside0.mk (below_then HB.out HB.out.size hb); have HC4 := Aside0.mk hC4; have HL4 := Aside0.mk hl4; clear hC4 hb hl4)
    | (go_at_call 92; (with_reducible refine (match_yes _ _ q _ _ r1 _ HC4.out HL4.out (Kd.C_below H1.out HB.out) H1C.out E3.out).mono ?_); rintro e w6 ⟨rfl, hb⟩; have HB := Aside0.mk (below_then HB.out HB.out.size hb); clear hb)
    | (go_at_call 95; (with_reducible refine (chainInner_n a0 a1 a2 a3 a4 a5 _ _ _ sd _ _ lt _ (by first | rfl | (have := HTE.out; omega)) t1 _ (Kd.C_below HSD.out HB.out) HSC.out (Kd.C_below HT.out HB.out) (by have := HTL.out; omega) E4.out).mono ?_); rintro e w7 ⟨A5, c5, rfl, hl5, hC5, hb⟩; have HB := Aside0.mk (below_then HB.out HB.out.size hb); have HC5 := Aside0.mk hC5; have HL5 := Aside0.mk hl5; clear hC5 hb hl5)
    | (go_at_call 91; (with_reducible refine (chainBorder_n a0 a1 a2 a3 a4 a5 _ _ t1 _ _ ld _ (by first | rfl | (have := HDE.out; omega)) t _ HC5.out HL5.out (Kd.C_below HR.out HB.out) (by have := HDL.out; omega) E5.out).mono ?_); rintro e w8 ⟨A6, c6, rfl, hl6, hC6, hb⟩; have HB := Aside0.mk (below_then HB.out HB.out.size hb); have HC6 := Aside0.mk hC6; have HL6 := Aside0.mk hl6; clear hC6 hb hl6)
    | (go_at_call 92; (with_reducible refine (match_no _ _ t _ _ r2 _ HC6.out HL6.out (Kd.C_below H2.out HB.out) H2C.out E6.out).mono ?_); rintro e w9 ⟨rfl, hb⟩; have HB := Aside0.mk (below_then HB.out HB.out.size hb); have HC6 := Aside0.mk (Kd.C_below HC6.out hb); clear hb))
  go_ret
  exact ⟨_, _, rfl, HL6.out, HC6.out, HB.out⟩

set_option maxHeartbeats 2000000 in
set_option maxRecDepth 100000 in
theorem vc_odd_yes (a0 a1 a2 a3 a4 a5 : Int) (s1 s2 p : Nat) (A : Option Addr) (c : Nat) (l : List (List Int)) (A1 : Option Addr) (c1 : Nat) (r1 : List Int) (A2 : Option Addr) (c2 : Nat) (r2 : List Int) (inner border sh inn : Nat) (q1 q : List Int) (t1 t : List Int) (w : World) (hl : CL w A l) (hlc : l.length ≤ c) (hll : l.length ≤ 5864062014805) (h1 : CB w A1 r1) (hc1 : r1.length ≤ c1) (h2 : CB w A2 r2) (hc2 : r2.length ≤ c2) (HG_ : Glob w) (hs1 : 0 < s1) (hs12 : s1 < s2) (hs2 : s2 < 18446744073709551616) (hp : p + 1 = s1) (hnl : 0 < l.length) (hd : proof_decompInclProof.f (p : Int) (s2 : Int) = some ((inner : Int), (border : Int))) (hz : bits_TrailingZeros64.f (s1 : Int) = some (sh : Int)) (hsh : sh < 64) (hin : inn + sh = inner) (hin2 : inner ≤ 64) (hbo : border ≤ 64) (hpw : s1 ≠ 2 ^ sh) (hn : l.length = 1 + inn + border) (e1 : chainR a0 a1 a2 a3 a4 a5 ((p : Int) / 2 ^ min sh 64) ((l.drop 1).take inn) (l.getD 0 []) 0 = some q1) (e2 : chainB a0 a1 a2 a3 a4 a5 ((l.drop 1).drop inn) q1 = some q) (e3 : sameB q r1 = true) (e4 : chainI a0 a1 a2 a3 a4 a5 ((p : Int) / 2 ^ min sh 64) ((l.drop 1).take inn) (l.getD 0 []) 0 = some t1) (e5 : chainB a0 a1 a2 a3 a4 a5 ((l.drop 1).drop inn) t1 = some t) (e6 : sameB t r2 = true) :
    Calls Tryd.prog 60 #[toyV a0 a1 a2 a3 a4 a5, .int .u64 (s1 : Nat), .int .u64 (s2 : Nat), .slice A l.length c, .slice A1 r1.length c1, .slice A2 r2.length c2] w fun e w' => e = .returned .nilIface ∧ Below w.heap.size w w' := by
  have hpo := pow_wrap sh hsh
  have t5w : ((s1 : Int) == IntKind.u64.wrap ((2 : Int) ^ min sh 64)) = false := beq_eq_false_iff_ne.2 (by rw [Nat.min_eq_left (by omega), hpo]; exact fun h => hpw (Int.ofNat_inj.1 h))
  clear hpw hpo
  have t1_ : decide (s2 < s1) = false := decide_eq_false (by omega)
  have t1i : decide ((s2 : Int) < (s1 : Int)) = false := decide_eq_false (by omega)
  have t2_ : (s1 == s2) = false := beq_eq_false_iff_ne.2 (by omega)
  have t2i : ((s1 : Int) == (s2 : Int)) = false := beq_eq_false_iff_ne.2 (by omega)
  have t3_ : (s1 == 0) = false := beq_eq_false_iff_ne.2 (by omega)
  have t3i : ((s1 : Int) == 0) = false := beq_eq_false_iff_ne.2 (by omega)
  have t4_ : (l.length == 0) = false := beq_eq_false_iff_ne.2 (by omega)
  have t4i : ((l.length : Int) == 0) = false := beq_eq_false_iff_ne.2 (by omega)
  have b0 : s1 < 18446744073709551616 := by omega
  have b1 : inner < 9223372036854775808 := by omega
  have b2 : inn < 9223372036854775808 := by omega
  have b3 : inn + border < 9223372036854775808 := by omega
  have b4 : 1 + inn < 9223372036854775808 := by omega
  have b5 : 1 + inn + border < 9223372036854775808 := by omega
  have t6_ : ((l.length : Int) != ((1 + inn + border : Nat) : Int)) = false := bne_eq_false_iff_eq.2 (by omega)
  have HL := Aside0.mk hl
  have H1 := Aside0.mk h1
  have H2 := Aside0.mk h2
  have HG := Aside0.mk HG_
  have HD := Aside0.mk hd
  have HZ := Aside0.mk hz
  have HB := Aside0.mk (Below.refl w.heap.size w)
  obtain ⟨ad, Ah, ch, ead, hx, hlh, hCh⟩ := at_L HL.out 0 hnl
  cases ead
  rw [Addr.add_zero'] at hx
  have HCh := Aside0.mk hCh
  have HLh := Aside0.mk hlh
  clear hCh hlh
  obtain ⟨iL, hiL, hsL⟩ := Option.map_eq_some_iff.1 infoL
  simp only [Prod.mk.injEq] at hsL
  have hcut0 : ∀ W : World, (Instr.slice 25 (.slice (some ad) l.length c) (some (.int .i64 1)) none none).run Tryd.prog W = .ok (.slice (if c = 1 then some ad else (some ad : Option Addr).map (·.add (1 * 1))) (l.drop 1).length (c - 1)) W := fun W => by
    have h := cut_from (P := Tryd.prog) 25 28 .i64 Tryd.underlying25 hiL 1 hsL.2.1 (some ad) l.length c 1 (by omega) (by omega) W
    rw [show ((1 : Int)).toNat = 1 from rfl] at h
    rw [List.length_drop]
    exact h
  have HK : Aside0 (CL w (if c = 1 then some ad else (some ad : Option Addr).map (·.add (1 * 1))) (l.drop 1)) := ⟨Kd.C_drop (m := 1) (c := c) HL.out (by omega) hlc⟩
  generalize (if c = 1 then some ad else (some ad : Option Addr).map (·.add (1 * 1))) = Ab at hcut0 HK
  have HKC : Aside0 ((l.drop 1).length ≤ c - 1) := ⟨by rw [List.length_drop]; omega⟩
  have HKN : Aside0 ((l.drop 1).length = inn + border) := ⟨by rw [List.length_drop]; omega⟩
  generalize l.drop 1 = lk at hcut0 HK HKC HKN e1 e2 e4 e5
  generalize c - 1 = cb at hcut0 HKC
  generalize l.getD 0 [] = sd at hx HCh HLh e1 e4
  have HSD := HCh
  have HSC := HLh
  have hcut1 : ∀ W : World, (Instr.slice 25 (.slice Ab lk.length cb) none (some (.int .i64 (inn : Int))) none).run Tryd.prog W = .ok (.slice Ab (lk.take inn).length cb) W := fun W => by
    have h := cut_to (P := Tryd.prog) 25 28 .i64 Tryd.underlying25 hiL Ab lk.length cb (inn : Int) (by omega) (by have := HKN.out; omega) HKC.out W
    rw [Int.toNat_natCast] at h
    rw [show (lk.take inn).length = inn by rw [List.length_take]; have := HKN.out; omega]
    exact h
  have hcut2 : ∀ W : World, (Instr.slice 25 (.slice Ab lk.length cb) (some (.int .i64 (inn : Int))) none none).run Tryd.prog W = .ok (.slice (if cb = inn then Ab else (Ab : Option Addr).map (·.add (inn * 1))) (lk.drop inn).length (cb - inn)) W := fun W => by
    have h := cut_from (P := Tryd.prog) 25 28 .i64 Tryd.underlying25 hiL 1 hsL.2.1 Ab lk.length cb (inn : Int) (by omega) (by have := HKN.out; omega) W
    rw [Int.toNat_natCast] at h
    rw [List.length_drop]
    exact h
  have HT := Aside0.mk (Kd.C_take (m := inn) HK.out (by have := HKN.out; omega))
  have HR : Aside0 (CL w (if cb = inn then Ab else (Ab : Option Addr).map (·.add (inn * 1))) (lk.drop inn)) := ⟨Kd.C_drop (m := inn) (c := cb) HK.out (by have := HKN.out; omega) HKC.out⟩
  generalize (if cb = inn then Ab else (Ab : Option Addr).map (·.add (inn * 1))) = Ax at hcut2 HR
  have HTL : Aside0 ((lk.take inn).length ≤ 64) := ⟨by rw [List.length_take]; omega⟩
  have HTE : Aside0 ((lk.take inn).length = inn) := ⟨by rw [List.length_take]; have := HKN.out; omega⟩
  have HDE : Aside0 ((lk.drop inn).length = border) := ⟨by rw [List.length_drop]; have := HKN.out; omega⟩
  have HDL : Aside0 ((lk.drop inn).length ≤ 64) := ⟨by rw [List.length_drop]; have := HKN.out; omega⟩
  have E1 := Aside0.mk e1
  have E2 := Aside0.mk e2
  have E3 := Aside0.mk e3
  have E4 := Aside0.mk e4
  have E5 := Aside0.mk e5
  have E6 := Aside0.mk e6
  clear e4 e5 e6
  have H1C := Aside0.mk hc1
  have H2C := Aside0.mk hc2
  generalize lk.take inn = lt at hcut1 HT HTL HTE E1 E4
  generalize lk.drop inn = ld at hcut2 HR HDL HDE E2 E5
  have hw1 := sub_w1 s1 p hp b0
  have hsw : ∀ z : Int, z = (sh : Int) → IntKind.u64.wrap z = (sh : Int) := fun z hz => by rw [hz]; show (sh : Int) % 18446744073709551616 = _; omega
  have hw2 : ∀ z : Int, z = (sh : Int) → wrap64 ((inner : Int) - z) = (inn : Int) := fun z hz => by rw [hz]; exact sub_w inner sh inn hin b1
  have hw3 : ∀ z : Int, z = (inn : Int) → wrap64 (1 + z) = 1 + (inn : Int) := fun z hz => by rw [hz]; exact (add_w 1 inn b4).trans (by omega)
  have hw4 : ∀ z : Int, z = (border : Int) → wrap64 (1 + (inn : Int) + z) = (l.length : Int) := fun z hz => by rw [hz, hn, show (1 : Int) + (inn : Int) = ((1 + inn : Nat) : Int) by omega]; exact add_w (1 + inn) border b5
  clear b0 b1 b2 b3 b4 b5 e1 e2 e3 hn hs12 hs2 hp hll hlc hin hin2 hbo hs1 hc1 hc2 hl h1 h2 HG_ hd hz hiL hsL HK HKC HKN hsh
  go_enter Tryd.func60, Tryd.ntmps60
  go_wp2_with (first
    | (go_at_call 93; (with_reducible refine (proof_decompInclProof.calls _ _ _ _ _ HD.out).mono ?_); rintro e w2 ⟨rfl, hb⟩; have HG := Aside0.mk (Glob.below HG.out hb.below); have HB := Aside0.mk (below_then HB.out HB.out.size hb.below); have hx2 := pw_cell_below HB.out hx; clear hb)
    | (go_at_call 89; (with_reducible refine (bits_TrailingZeros64.calls _ _ _ HG.out HZ.out).mono ?_); rintro e w3 ⟨rfl, hb⟩; have HB := Aside0.mk (below_then HB.out HB.out.size hb.below); have hx3 := pw_cell_below HB.out hx; clear hb)
    | (go_at_call 94; (with_reducible refine (chainRight_n a0 a1 a2 a3 a4 a5 _ _ _ sd _ _ lt _ (by first | rfl | (have := HTE.out; omega)) q1 _ (Kd.C_below HSD.out HB.out) HSC.out (Kd.C_below HT.out HB.out) (by have := HTL.out; omega) E1.out).mono ?_); rintro e w4 ⟨A3, c3, rfl, hl3, hC3, hb⟩; have HB := Aside0.mk (below_then HB.out HB.out.size hb); have HC3 := Aside0.mk hC3; have HL3 := Aside0.mk hl3; clear hC3 hb hl3)
    | (go_at_call 91; (with_reducible refine (chainBorder_n a0 a1 a2 a3 a4 a5 _ _ q1 _ _ ld _ (by first | rfl | (have := HDE.out; omega)) q _ HC3.out HL3.out (Kd.C_below HR.out HB.out) (by have := HDL.out; omega) E2.out).mono ?_); rintro e w5 ⟨A4, c4, rfl, hl4, hC4, hb⟩; have HB := Aside0.mk (below_then HB.out HB.out.size hb); have HC4 := Aside0.mk hC4; have HL4 := Aside0.mk hl4; clear hC4 hb hl4)
    | (go_at_call 92; (with_reducible refine (match_yes _ _ q _ _ r1 _ HC4.out HL4.out (Kd.C_below H1.out HB.out) H1C.out E3.out).mono ?_); rintro e w6 ⟨rfl, hb⟩; have HB := Aside0.mk (below_then HB.out HB.out.size hb); clear hb)
    | (go_at_call 95; (with_reducible refine (chainInner_n a0 a1 a2 a3 a4 a5 _ _ _ sd _ _ lt _ (by first | rfl | (have := HTE.out; omega)) t1 _ (Kd.C_below HSD.out HB.out) HSC.out (Kd.C_below HT.out HB.out) (by have := HTL.out; omega) E4.out).mono ?_); rintro e w7 ⟨A5, c5, rfl, hl5, hC5, hb⟩; have HB := Aside0.mk (below_then HB.out HB.out.size hb); have HC5 := Aside0.mk hC5; have HL5 := Aside0.mk hl5; clear hC5 hb hl5)
    | (go_at_call 91; (with_reducible refine (chainBorder_n a0 a1 a2 a3 a4 a5 _ _ t1 _ _ ld _ (by first | rfl | (have := HDE.out; omega)) t _ HC5.out HL5.out (Kd.C_below HR.out HB.out) (by have := HDL.out; omega) E5.out).mono ?_); rintro e w8 ⟨A6, c6, rfl, hl6, hC6, hb⟩; have HB := Aside0.mk (below_then HB.out HB.out.size hb); have HC6 := Aside0.mk hC6; have HL6 := Aside0.mk hl6; clear hC6 hb hl6)
    | (go_at_call 92; (with_reducible refine (match_yes _ _ t _ _ r2 _ HC6.out HL6.out (Kd.C_below H2.out HB.out) H2C.out E6.out).mono ?_); rintro e w9 ⟨rfl, hb⟩; have HB := Aside0.mk (below_then HB.out HB.out.size hb); have HC6 := Aside0.mk (Kd.C_below HC6.out hb); clear hb))
  go_ret
  exact ⟨rfl, HB.out⟩

end Go.Proofs.YtfhcpniibiobgaaDoor.Qf
namespace Go.Proofs.YtfhcpniibiobgaaDoor.Qf
open Go.RowKit Go.Proofs.YtfhcpniibiobgaaDoorW.PrintWords Go.Proofs.YtfhcpniibiobgaaDoorW.PrintLast Go.Proofs.YtfhcpniibiobgaaDoorW.PrintMore
open Hs (CB CL at_L at_B infoB infoL R_of_blk)

/-- Appending to an empty literal: nothing of the old world is touched. -/
theorem app_lit (W : World) (g : Nat) (A : Option Addr) (c : Nat) (ys : List Int) (hy : CB W A ys) (hl : ys.length ≤ 140737488351232) :
    ∃ A' c' w1, (Builtin.append_ #[28, 28] 28 #[.slice (some ⟨g, 0, none⟩) 0 0, .slice A ys.length c]).run Tryd.prog W = .ok (.slice A' ys.length c') w1 ∧ ys.length ≤ c' ∧ CB w1 A' ys ∧ Below W.heap.size W w1 := by
  obtain ⟨i0, hi, hz⟩ := Option.map_eq_some_iff.1 infoB
  simp only [Prod.mk.injEq] at hz
  obtain ⟨hz0, hz1, hz2⟩ := hz
  by_cases h0 : ys = []
  · subst h0
    refine ⟨some ⟨g, 0, none⟩, 0, W, ?_, Nat.le_refl _, ⟨rfl, by simp, fun h => by simp at h⟩, Below.refl _ _⟩
    rcases A with _ | ad
    · simp [Builtin.append_, run_underlying Tryd.underlying28, sizeOf, typeInfo, hi, Builtin.lenOf, Builtin.firstCells, storeCells]
    · have hr := run_append_room_cells (P := Tryd.prog) W 28 28 5 i0 Tryd.underlying28 hi g 0 0 0 ad 0 c [] (by simp) (by simp) (by simp) (Nat.le_refl _) (by simp) (by simp)
      exact hr
  · have hpos : 0 < ys.length := List.length_pos_iff.2 h0
    obtain ⟨ad, rfl, _⟩ := at_B hy 0 hpos
    have hnews : ∀ j u, (ys.map (Value.int .u8))[j]? = some u → W.cell? (ad.add j) = some u := by
      intro j u hj
      rw [List.getElem?_map] at hj
      obtain ⟨x, hx, rfl⟩ := Option.map_eq_some_iff.1 hj
      obtain ⟨hjl, hxe⟩ := List.getElem?_eq_some_iff.1 hx
      obtain ⟨ad', e, hc⟩ := at_B hy j hjl
      cases e
      rw [List.getD_eq_getElem?_getD, List.getElem?_eq_getElem hjl, Option.getD_some, hxe] at hc
      exact hc
    obtain ⟨v', w', hrun, hown, hg⟩ := run_append_arg_grows (P := Tryd.prog) W 28 28 5 i0 (.int .u8 0) 1 1 Tryd.underlying28 hi hz0 hz1 hz2 rfl (by omega) ⟨g, 0, none⟩ 0 0 [] rfl (fun j u h => by simp at h) ad ys.length c (ys.map (Value.int .u8)) (by simp) hnews (by omega) (by unfold maxLen; omega) (by omega)
    rw [List.nil_append, Nat.zero_add] at hown
    have hR : Kd.R (Kd.int .u8) 5 w' W.heap.size (fun _ => True) v' ys := ⟨fun _ _ => trivial, _, hown, by show _ = _ * 1; simp, fun j p hj => by
      show ((ys.map (Value.int .u8)).drop (j * 1)).take 1 = [Value.int .u8 p]
      obtain ⟨hjl, hp⟩ := List.getElem?_eq_some_iff.1 hj
      rw [Nat.mul_one, List.drop_eq_getElem_cons (by rw [List.length_map]; exact hjl), List.take_succ_cons, List.take_zero, List.getElem_map, hp]⟩
    obtain ⟨A', c', rfl, hlc, hC⟩ := Kd.R_reads hR
    exact ⟨A', c', w', hrun, hlc, hC, pw_below_grown (Below.refl _ _) none (Nat.le_refl _) hg (fun k h => by simp at h)⟩
-- REGION
/-- A literal without elements: what follows may hang on its block and on nothing else of it. -/
theorem new_lit {Kc : Act → World → Prop} {a : Act} {N : Option Tmp} (W : World) (T : TypeId) (h : ∀ g W', Below W.heap.size W W' → Kc (a.put N (.slice (some ⟨g, 0, none⟩) 0 0)) W') : Kc (a.put N (.slice (some ⟨W.heap.size, 0, none⟩) 0 0)) (W.alloc (.cells #[] T)) :=
  h _ _ (below_alloc (Below.refl _ _) _)
theorem app_step {ops : Array Oper} {o : Oper} {a : Act} {Kc : Act → World → Prop} {Q : Exit → Act → World → Prop} {W : World} {A : Option Addr} {c : Nat} {ys : List Int} (g : Nat) (s x : Operand) (hgd : o.guard = none)
    (ho : o.op = .call { callee := .builtin .append, args := #[s, x], argTypes := #[28, 28] }) (hty : o.type = 28) (hs : a.eval s = .slice (some ⟨g, 0, none⟩) 0 0) (hx : a.eval x = .slice A ys.length c) (hy : CB W A ys) (hl : ys.length ≤ 140737488351232)
    (h : ∀ A' c' w1, ys.length ≤ c' → CB w1 A' ys → Below W.heap.size W w1 → Kc (a.put o.dst (.slice A' ys.length c')) w1) : if Region.wanted o (yielded ops a.tmps) = true then Oper.wp Tryd.prog o a W Kc Q else Kc (a.put o.dst undef) W := by
  obtain ⟨A', c', w1, hrun, h1, h2, h3⟩ := app_lit W g A c ys hy hl
  refine event_step (by simp [Region.wanted, hgd]) (v := .slice A' ys.length c') (w1 := w1) ?_ (h A' c' w1 h1 h2 h3)
  unfold execOp
  simp only [ho, hty, resolve, invoke, builtin, Sem.run_bind, Sem.run_pure, Result.andThen_ok, List.map_toArray, List.map_cons, List.map_nil, hs, hx, hrun]

set_option maxHeartbeats 4000000 in
set_option maxRecDepth 100000 in
theorem implVC_of (a0 a1 a2 a3 a4 a5 s1 s2 : Int) (A1 : Option Addr) (c1 : Nat) (l1 : List Int) (A2 : Option Addr) (c2 : Nat) (L : List (List Int)) (A3 : Option Addr) (c3 : Nat) (l3 : List Int) (w : World)
    (h1 : CB w A1 l1) (h2 : CL w A2 L) (h3 : CB w A3 l3) (hl1 : l1.length ≤ 140737488351232) (hl3 : l3.length ≤ 140737488351232) (hc2 : L.length ≤ c2) (k : Nat) (htx : impl_texts.f k L = some L) (r1 : Int) (r2 : List Int)
    (hv : ∀ (W : World) (B1 : Option Addr) (d1 : Nat) (B2 : Option Addr) (d2 : Nat) (B3 : Option Addr) (d3 : Nat), Below w.heap.size w W → CB W B1 l1 → l1.length ≤ d1 → CL W B2 L → L.length ≤ d2 → CB W B3 l3 → l3.length ≤ d3 →
      Calls Tryd.prog 60 #[toyV a0 a1 a2 a3 a4 a5, .int .u64 s1, .int .u64 s2, .slice B2 L.length d2, .slice B1 l1.length d1, .slice B3 l3.length d3] W fun e W' => ∃ v, e = .returned v ∧ Below W.heap.size W W' ∧
        Calls Tryd.prog 59 #[v] W' fun e' W'' => ∃ v2, e' = .returned (.tuple #[.int .i64 r1, v2]) ∧ Kd.R (Kd.int .u8) 5 W'' W'.heap.size (fun _ => True) v2 r2 ∧ Below W'.heap.size W' W'') :
    Calls Tryd.prog 23 #[.agg #[.int .i64 a0, .int .i64 a1, .int .i64 a2, .int .u64 a3, .int .u64 a4, .int .u64 a5], .int .u64 s1, .int .u64 s2, .slice A2 L.length c2, .slice A1 l1.length c1, .slice A3 l3.length c3] w fun e w' => ∃ v2, e = .returned (.tuple #[.int .i64 r1, v2]) ∧ Kd.R (Kd.int .u8) 5 w' w.heap.size (fun _ => True) v2 r2 ∧ Below w.heap.size w w' := by
  have H1 := Aside0.mk h1
  have H2 := Aside0.mk h2
  have H3 := Aside0.mk h3
  have HV := Aside0.mk hv
  clear h1 h2 h3 hv
  go_enter Tryd.func23, Tryd.ntmps23
  try go_wp2_with (fail)
  have BK : Aside0 (((w.alloc (.cells #[.int .i64 a0, .int .i64 a1, .int .i64 a2, .int .u64 a3, .int .u64 a4, .int .u64 a5] 24)).drew).heap[w.heap.size]? = some (.cells #[.int .i64 a0, .int .i64 a1, .int .i64 a2, .int .u64 a3, .int .u64 a4, .int .u64 a5] 24 (0, 0))) := ⟨blk_drew (heap_alloc_new w _)⟩
  have HB := Aside0.mk (below_drew1 (below_alloc (Below.refl w.heap.size w) (.cells #[.int .i64 a0, .int .i64 a1, .int .i64 a2, .int .u64 a3, .int .u64 a4, .int .u64 a5] 24)))
  refine start_ (n := 19) (S := fun w' => w'.cell? ⟨w.heap.size, 0, none⟩ = some (.int .i64 a0) ∧ w'.cell? ⟨w.heap.size, 1, none⟩ = some (.int .i64 a1) ∧ w'.cell? ⟨w.heap.size, 2, none⟩ = some (.int .i64 a2) ∧ w'.cell? ⟨w.heap.size, 3, none⟩ = some (.int .u64 a3) ∧ w'.cell? ⟨w.heap.size, 4, none⟩ = some (.int .u64 a4) ∧ w'.cell? ⟨w.heap.size, 5, none⟩ = some (.int .u64 a5)) (ds := []) #[false, false, false, false, false, false, false, false, false, false, false, false, false, false, false, false, false, false, false] (by kernel_rfl) rfl rfl ⟨(blk_cell BK.out 0).trans rfl, (blk_cell BK.out 1).trans rfl, (blk_cell BK.out 2).trans rfl, (blk_cell BK.out 3).trans rfl, (blk_cell BK.out 4).trans rfl, (blk_cell BK.out 5).trans rfl⟩ (fun hHeld => ?_)
  generalize (w.alloc (.cells #[.int .i64 a0, .int .i64 a1, .int .i64 a2, .int .u64 a3, .int .u64 a4, .int .u64 a5] 24)).drew = wz at BK HB hHeld ⊢
  refine pure_ (i := 3) (N := some 17) (v := ?_) (a' := ?_) #[false, false, false, true, false, false, false, false, false, false, false, false, false, false, false, false, false, false, false] rfl rfl (by kernel_rfl) (fun _ _ _ h => h) (Or.inl ⟨by rfl, ?_⟩) ?_ ?_
  rotate_left
  · intro w'
    go_simp
    with_reducible rfl
  rotate_left
  · simp only [Act.put, List.setIfInBounds_toArray, List.set_cons_zero, List.set_cons_succ]
    rfl
  refine pure_ (i := 4) (N := some 18) (v := ?_) (a' := ?_) #[false, false, false, true, true, false, false, false, false, false, false, false, false, false, false, false, false, false, false] rfl rfl (by kernel_rfl) (fun _ _ _ h => h) (Or.inl ⟨by rfl, ?_⟩) ?_ ?_
  rotate_left
  · intro w'
    go_simp
    with_reducible rfl
  rotate_left
  · simp only [Act.put, List.setIfInBounds_toArray, List.set_cons_zero, List.set_cons_succ]
    rfl
  refine pure_ (i := 5) (N := some 19) (v := ?_) (a' := ?_) #[false, false, false, true, true, true, false, false, false, false, false, false, false, false, false, false, false, false, false] rfl rfl (by kernel_rfl) (fun _ _ _ h => h) (Or.inl ⟨by rfl, ?_⟩) ?_ ?_
  rotate_left
  · intro w'
    go_simp
    with_reducible rfl
  rotate_left
  · simp only [Act.put, List.setIfInBounds_toArray, List.set_cons_zero, List.set_cons_succ]
    rfl
  refine pure_ (i := 8) (N := some 22) (v := ?_) (a' := ?_) #[false, false, false, true, true, true, false, false, true, false, false, false, false, false, false, false, false, false, false] rfl rfl (by kernel_rfl) (fun _ _ _ h => h) (Or.inl ⟨by rfl, ?_⟩) ?_ ?_
  rotate_left
  · intro w'
    go_simp
    with_reducible rfl
  rotate_left
  · simp only [Act.put, List.setIfInBounds_toArray, List.set_cons_zero, List.set_cons_succ]
    rfl
  refine pure_ (i := 11) (N := some 25) (v := ?_) (a' := ?_) #[false, false, false, true, true, true, false, false, true, false, false, true, false, false, false, false, false, false, false] rfl rfl (by kernel_rfl) (fun _ _ _ h => h) (Or.inl ⟨by rfl, ?_⟩) ?_ ?_
  rotate_left
  · intro w'
    go_simp
    with_reducible rfl
  rotate_left
  · simp only [Act.put, List.setIfInBounds_toArray, List.set_cons_zero, List.set_cons_succ]
    rfl
  refine take_ (i := 0) (N := some 14) (v := ?_) (a' := ?_) #[true, false, false, true, true, true, false, false, true, false, false, true, false, false, false, false, false, false, false] rfl rfl (by kernel_rfl) (fun _ _ _ h => h) (Or.inl ⟨by rfl, ?_⟩) hHeld ?_ ?_
  rotate_left
  · rintro w' ⟨s0, s1, s2, s3, s4, s5⟩
    go_simp
    with_reducible rfl
  rotate_left
  · simp only [Act.put, List.setIfInBounds_toArray, List.set_cons_zero, List.set_cons_succ]
    rfl
  refine pure_ (i := 1) (N := some 15) (v := ?_) (a' := ?_) #[true, true, false, true, true, true, false, false, true, false, false, true, false, false, false, false, false, false, false] rfl rfl (by kernel_rfl) (fun _ _ _ h => h) (Or.inl ⟨by rfl, ?_⟩) ?_ ?_
  rotate_left
  · intro w'
    go_simp
    with_reducible rfl
  rotate_left
  · simp only [Act.put, List.setIfInBounds_toArray, List.set_cons_zero, List.set_cons_succ]
    rfl
  refine pure_ (i := 2) (N := some 16) (v := ?_) (a' := ?_) #[true, true, true, true, true, true, false, false, true, false, false, true, false, false, false, false, false, false, false] rfl rfl (by kernel_rfl) (fun _ _ _ h => h) (Or.inl ⟨by rfl, ?_⟩) ?_ ?_
  rotate_left
  · intro w'
    go_simp
    with_reducible rfl
  rotate_left
  · simp only [Act.put, List.setIfInBounds_toArray, List.set_cons_zero, List.set_cons_succ]
    rfl
  refine join_ (σ := Option Addr × Nat × Option Addr × Nat × Nat × Nat) 7 #[true, true, true, true, true, true, true, true, true, true, true, true, false, false, false, false, false, false, false] (fun s_ => [(20, .slice s_.2.2.1 L.length s_.2.2.2.1), (21, .slice (some ⟨s_.2.2.2.2.1, 0, none⟩) 0 0), (23, .slice s_.1 l1.length s_.2.1), (24, .slice (some ⟨s_.2.2.2.2.2, 0, none⟩) 0 0)]) (fun s_ w' => w'.heap[w.heap.size]? = some (.cells #[.int .i64 a0, .int .i64 a1, .int .i64 a2, .int .u64 a3, .int .u64 a4, .int .u64 a5] 24 (0, 0)) ∧ Below w.heap.size w w' ∧ CB w' s_.1 l1 ∧ l1.length ≤ s_.2.1 ∧ CL w' s_.2.2.1 L ∧ L.length ≤ s_.2.2.2.1) ?_ ?_
  rotate_left
  · intro hCont
    refine three_ (i := 6) (j := 7) (k := 10) (Ni := some 20) (Nj := some 21) (Nk := some 24) #[true, true, true, true, true, true, true, false, true, false, false, true, false, false, false, false, false, false, false] #[true, true, true, true, true, true, false, true, true, false, false, true, false, false, false, false, false, false, false] #[true, true, true, true, true, true, false, false, true, false, true, true, false, false, false, false, false, false, false] rfl rfl rfl rfl rfl rfl (by kernel_rfl) (by decide) (by decide) (by decide) (fun K hK => ?_) (fun K hK => ?_) (fun K hK => ?_)
    · skip
      refine goes_ Tryd.func48 (by kernel_rfl) rfl #[.slice A2 L.length c2] (by rfl) rfl rfl (by (try simp only [List.map_toArray, List.map_cons, List.map_nil]); first | done | rfl) ?_
      refine (impl_texts.calls _ _ c2 L L _ (Kd.C_below H2.out HB.out) hc2 htx).mono ?_
      rintro e W' ⟨v23, rfl, hS, hb⟩
      refine ⟨_, rfl, ?_⟩
      obtain ⟨B2, d2, rfl, hd2, hC⟩ := Kd.S_reads hS
      clear hS
      have nBK := Aside0.mk (blk_below BK.out hb)
      have nHB := Aside0.mk (below_step HB.out hb)
      clear BK HB  hb
      have BK := nBK
      have HB := nHB
      clear nBK nHB 
      have F2 := Aside0.mk hC
      clear hC
      refine hK.out _ _ ⟨(blk_cell BK.out 0).trans rfl, (blk_cell BK.out 1).trans rfl, (blk_cell BK.out 2).trans rfl, (blk_cell BK.out 3).trans rfl, (blk_cell BK.out 4).trans rfl, (blk_cell BK.out 5).trans rfl⟩ (fun hHeld => ?_)
      clear hK K
      refine norm_ (a' := ?_) ?_ ?_
      rotate_left
      · show Act.put _ (some 20) _ = _
        simp only [Act.put, List.setIfInBounds_toArray, List.set_cons_zero, List.set_cons_succ]
        rfl
      refine two_ (i := 7) (j := 10) (Ni := some 21) (Nj := some 24) #[true, true, true, true, true, true, true, true, true, false, false, true, false, false, false, false, false, false, false] #[true, true, true, true, true, true, true, false, true, false, true, true, false, false, false, false, false, false, false] rfl rfl rfl rfl (by kernel_rfl) (by decide) (by decide) (fun K hK => ?_) (fun K hK => ?_)
      · skip
        refine event_step rfl (by first | (go_simp; done) | (go_simp; rfl) | (go_simp; exact ⟨rfl, rfl⟩)) ?_
        refine new_lit _ _ ?_
        intro g7 W' hb
        have nBK := Aside0.mk (blk_below BK.out hb)
        have nHB := Aside0.mk (below_step HB.out hb)
        have nF2 := Aside0.mk (Kd.C_below F2.out hb)
        clear BK HB F2 hb
        have BK := nBK
        have HB := nHB
        have F2 := nF2
        clear nBK nHB nF2
        refine hK.out _ _ ⟨(blk_cell BK.out 0).trans rfl, (blk_cell BK.out 1).trans rfl, (blk_cell BK.out 2).trans rfl, (blk_cell BK.out 3).trans rfl, (blk_cell BK.out 4).trans rfl, (blk_cell BK.out 5).trans rfl⟩ (fun hHeld => ?_)
        clear hK K
        refine norm_ (a' := ?_) ?_ ?_
        rotate_left
        · show Act.put _ (some 21) _ = _
          simp only [Act.put, List.setIfInBounds_toArray, List.set_cons_zero, List.set_cons_succ]
          rfl
        refine two_ (i := 9) (j := 10) (Ni := some 23) (Nj := some 24) #[true, true, true, true, true, true, true, true, true, true, false, true, false, false, false, false, false, false, false] #[true, true, true, true, true, true, true, true, true, false, true, true, false, false, false, false, false, false, false] rfl rfl rfl rfl (by kernel_rfl) (by decide) (by decide) (fun K hK => ?_) (fun K hK => ?_)
        · skip
          refine app_step g7 (.tmp 21) (.tmp 22) rfl rfl rfl rfl rfl (Kd.C_below H1.out HB.out) hl1 ?_
          intro B1 d1 W' hd1 hC hb
          have nBK := Aside0.mk (blk_below BK.out hb)
          have nHB := Aside0.mk (below_step HB.out hb)
          have nF2 := Aside0.mk (Kd.C_below F2.out hb)
          clear BK HB F2 hb
          have BK := nBK
          have HB := nHB
          have F2 := nF2
          clear nBK nHB nF2
          have F1 := Aside0.mk hC
          clear hC
          refine hK.out _ _ ⟨(blk_cell BK.out 0).trans rfl, (blk_cell BK.out 1).trans rfl, (blk_cell BK.out 2).trans rfl, (blk_cell BK.out 3).trans rfl, (blk_cell BK.out 4).trans rfl, (blk_cell BK.out 5).trans rfl⟩ (fun hHeld => ?_)
          clear hK K
          refine norm_ (a' := ?_) ?_ ?_
          rotate_left
          · show Act.put _ (some 23) _ = _
            simp only [Act.put, List.setIfInBounds_toArray, List.set_cons_zero, List.set_cons_succ]
            rfl
          refine one_ (i := 10) (N := some 24) #[true, true, true, true, true, true, true, true, true, true, true, true, false, false, false, false, false, false, false] rfl rfl (by kernel_rfl) (by decide) (fun K hK => ?_)
          refine event_step rfl (by first | (go_simp; done) | (go_simp; rfl) | (go_simp; exact ⟨rfl, rfl⟩)) ?_
          refine new_lit _ _ ?_
          intro g10 W' hb
          have nBK := Aside0.mk (blk_below BK.out hb)
          have nHB := Aside0.mk (below_step HB.out hb)
          have nF2 := Aside0.mk (Kd.C_below F2.out hb)
          have nF1 := Aside0.mk (Kd.C_below F1.out hb)
          clear BK HB F2 F1 hb
          have BK := nBK
          have HB := nHB
          have F2 := nF2
          have F1 := nF1
          clear nBK nHB nF2 nF1
          refine hK.out _ _ ⟨(blk_cell BK.out 0).trans rfl, (blk_cell BK.out 1).trans rfl, (blk_cell BK.out 2).trans rfl, (blk_cell BK.out 3).trans rfl, (blk_cell BK.out 4).trans rfl, (blk_cell BK.out 5).trans rfl⟩ (fun hHeld => ?_)
          clear hK K
          refine norm_ (a' := ?_) ?_ ?_
          rotate_left
          · show Act.put _ (some 24) _ = _
            simp only [Act.put, List.setIfInBounds_toArray, List.set_cons_zero, List.set_cons_succ]
            rfl
          exact norm_ (by simp only [putAll, Act.put, List.setIfInBounds_toArray, List.set_cons_zero, List.set_cons_succ]) (hCont (B1, d1, B2, d2, g7, g10) _ ⟨BK.out, HB.out, F1.out, hd1, F2.out, hd2⟩)
        · skip
          refine event_step rfl (by first | (go_simp; done) | (go_simp; rfl) | (go_simp; exact ⟨rfl, rfl⟩)) ?_
          refine new_lit _ _ ?_
          intro g10 W' hb
          have nBK := Aside0.mk (blk_below BK.out hb)
          have nHB := Aside0.mk (below_step HB.out hb)
          have nF2 := Aside0.mk (Kd.C_below F2.out hb)
          clear BK HB F2 hb
          have BK := nBK
          have HB := nHB
          have F2 := nF2
          clear nBK nHB nF2
          refine hK.out _ _ ⟨(blk_cell BK.out 0).trans rfl, (blk_cell BK.out 1).trans rfl, (blk_cell BK.out 2).trans rfl, (blk_cell BK.out 3).trans rfl, (blk_cell BK.out 4).trans rfl, (blk_cell BK.out 5).trans rfl⟩ (fun hHeld => ?_)
          clear hK K
          refine norm_ (a' := ?_) ?_ ?_
          rotate_left
          · show Act.put _ (some 24) _ = _
            simp only [Act.put, List.setIfInBounds_toArray, List.set_cons_zero, List.set_cons_succ]
            rfl
          refine one_ (i := 9) (N := some 23) #[true, true, true, true, true, true, true, true, true, true, true, true, false, false, false, false, false, false, false] rfl rfl (by kernel_rfl) (by decide) (fun K hK => ?_)
          refine app_step g7 (.tmp 21) (.tmp 22) rfl rfl rfl rfl rfl (Kd.C_below H1.out HB.out) hl1 ?_
          intro B1 d1 W' hd1 hC hb
          have nBK := Aside0.mk (blk_below BK.out hb)
          have nHB := Aside0.mk (below_step HB.out hb)
          have nF2 := Aside0.mk (Kd.C_below F2.out hb)
          clear BK HB F2 hb
          have BK := nBK
          have HB := nHB
          have F2 := nF2
          clear nBK nHB nF2
          have F1 := Aside0.mk hC
          clear hC
          refine hK.out _ _ ⟨(blk_cell BK.out 0).trans rfl, (blk_cell BK.out 1).trans rfl, (blk_cell BK.out 2).trans rfl, (blk_cell BK.out 3).trans rfl, (blk_cell BK.out 4).trans rfl, (blk_cell BK.out 5).trans rfl⟩ (fun hHeld => ?_)
          clear hK K
          refine norm_ (a' := ?_) ?_ ?_
          rotate_left
          · show Act.put _ (some 23) _ = _
            simp only [Act.put, List.setIfInBounds_toArray, List.set_cons_zero, List.set_cons_succ]
            rfl
          exact norm_ (by simp only [putAll, Act.put, List.setIfInBounds_toArray, List.set_cons_zero, List.set_cons_succ]) (hCont (B1, d1, B2, d2, g7, g10) _ ⟨BK.out, HB.out, F1.out, hd1, F2.out, hd2⟩)
      · skip
        refine event_step rfl (by first | (go_simp; done) | (go_simp; rfl) | (go_simp; exact ⟨rfl, rfl⟩)) ?_
        refine new_lit _ _ ?_
        intro g10 W' hb
        have nBK := Aside0.mk (blk_below BK.out hb)
        have nHB := Aside0.mk (below_step HB.out hb)
        have nF2 := Aside0.mk (Kd.C_below F2.out hb)
        clear BK HB F2 hb
        have BK := nBK
        have HB := nHB
        have F2 := nF2
        clear nBK nHB nF2
        refine hK.out _ _ ⟨(blk_cell BK.out 0).trans rfl, (blk_cell BK.out 1).trans rfl, (blk_cell BK.out 2).trans rfl, (blk_cell BK.out 3).trans rfl, (blk_cell BK.out 4).trans rfl, (blk_cell BK.out 5).trans rfl⟩ (fun hHeld => ?_)
        clear hK K
        refine norm_ (a' := ?_) ?_ ?_
        rotate_left
        · show Act.put _ (some 24) _ = _
          simp only [Act.put, List.setIfInBounds_toArray, List.set_cons_zero, List.set_cons_succ]
          rfl
        refine one_ (i := 7) (N := some 21) #[true, true, true, true, true, true, true, true, true, false, true, true, false, false, false, false, false, false, false] rfl rfl (by kernel_rfl) (by decide) (fun K hK => ?_)
        refine event_step rfl (by first | (go_simp; done) | (go_simp; rfl) | (go_simp; exact ⟨rfl, rfl⟩)) ?_
        refine new_lit _ _ ?_
        intro g7 W' hb
        have nBK := Aside0.mk (blk_below BK.out hb)
        have nHB := Aside0.mk (below_step HB.out hb)
        have nF2 := Aside0.mk (Kd.C_below F2.out hb)
        clear BK HB F2 hb
        have BK := nBK
        have HB := nHB
        have F2 := nF2
        clear nBK nHB nF2
        refine hK.out _ _ ⟨(blk_cell BK.out 0).trans rfl, (blk_cell BK.out 1).trans rfl, (blk_cell BK.out 2).trans rfl, (blk_cell BK.out 3).trans rfl, (blk_cell BK.out 4).trans rfl, (blk_cell BK.out 5).trans rfl⟩ (fun hHeld => ?_)
        clear hK K
        refine norm_ (a' := ?_) ?_ ?_
        rotate_left
        · show Act.put _ (some 21) _ = _
          simp only [Act.put, List.setIfInBounds_toArray, List.set_cons_zero, List.set_cons_succ]
          rfl
        refine one_ (i := 9) (N := some 23) #[true, true, true, true, true, true, true, true, true, true, true, true, false, false, false, false, false, false, false] rfl rfl (by kernel_rfl) (by decide) (fun K hK => ?_)
        refine app_step g7 (.tmp 21) (.tmp 22) rfl rfl rfl rfl rfl (Kd.C_below H1.out HB.out) hl1 ?_
        intro B1 d1 W' hd1 hC hb
        have nBK := Aside0.mk (blk_below BK.out hb)
        have nHB := Aside0.mk (below_step HB.out hb)
        have nF2 := Aside0.mk (Kd.C_below F2.out hb)
        clear BK HB F2 hb
        have BK := nBK
        have HB := nHB
        have F2 := nF2
        clear nBK nHB nF2
        have F1 := Aside0.mk hC
        clear hC
        refine hK.out _ _ ⟨(blk_cell BK.out 0).trans rfl, (blk_cell BK.out 1).trans rfl, (blk_cell BK.out 2).trans rfl, (blk_cell BK.out 3).trans rfl, (blk_cell BK.out 4).trans rfl, (blk_cell BK.out 5).trans rfl⟩ (fun hHeld => ?_)
        clear hK K
        refine norm_ (a' := ?_) ?_ ?_
        rotate_left
        · show Act.put _ (some 23) _ = _
          simp only [Act.put, List.setIfInBounds_toArray, List.set_cons_zero, List.set_cons_succ]
          rfl
        exact norm_ (by simp only [putAll, Act.put, List.setIfInBounds_toArray, List.set_cons_zero, List.set_cons_succ]) (hCont (B1, d1, B2, d2, g7, g10) _ ⟨BK.out, HB.out, F1.out, hd1, F2.out, hd2⟩)
    · skip
      refine event_step rfl (by first | (go_simp; done) | (go_simp; rfl) | (go_simp; exact ⟨rfl, rfl⟩)) ?_
      refine new_lit _ _ ?_
      intro g7 W' hb
      have nBK := Aside0.mk (blk_below BK.out hb)
      have nHB := Aside0.mk (below_step HB.out hb)
      clear BK HB  hb
      have BK := nBK
      have HB := nHB
      clear nBK nHB 
      refine hK.out _ _ ⟨(blk_cell BK.out 0).trans rfl, (blk_cell BK.out 1).trans rfl, (blk_cell BK.out 2).trans rfl, (blk_cell BK.out 3).trans rfl, (blk_cell BK.out 4).trans rfl, (blk_cell BK.out 5).trans rfl⟩ (fun hHeld => ?_)
      clear hK K
      refine norm_ (a' := ?_) ?_ ?_
      rotate_left
      · show Act.put _ (some 21) _ = _
        simp only [Act.put, List.setIfInBounds_toArray, List.set_cons_zero, List.set_cons_succ]
        rfl
      refine two_ (i := 6) (j := 10) (Ni := some 20) (Nj := some 24) #[true, true, true, true, true, true, true, true, true, false, false, true, false, false, false, false, false, false, false] #[true, true, true, true, true, true, false, true, true, false, true, true, false, false, false, false, false, false, false] rfl rfl rfl rfl (by kernel_rfl) (by decide) (by decide) (fun K hK => ?_) (fun K hK => ?_)
      · skip
        refine goes_ Tryd.func48 (by kernel_rfl) rfl #[.slice A2 L.length c2] (by rfl) rfl rfl (by (try simp only [List.map_toArray, List.map_cons, List.map_nil]); first | done | rfl) ?_
        refine (impl_texts.calls _ _ c2 L L _ (Kd.C_below H2.out HB.out) hc2 htx).mono ?_
        rintro e W' ⟨v23, rfl, hS, hb⟩
        refine ⟨_, rfl, ?_⟩
        obtain ⟨B2, d2, rfl, hd2, hC⟩ := Kd.S_reads hS
        clear hS
        have nBK := Aside0.mk (blk_below BK.out hb)
        have nHB := Aside0.mk (below_step HB.out hb)
        clear BK HB  hb
        have BK := nBK
        have HB := nHB
        clear nBK nHB 
        have F2 := Aside0.mk hC
        clear hC
        refine hK.out _ _ ⟨(blk_cell BK.out 0).trans rfl, (blk_cell BK.out 1).trans rfl, (blk_cell BK.out 2).trans rfl, (blk_cell BK.out 3).trans rfl, (blk_cell BK.out 4).trans rfl, (blk_cell BK.out 5).trans rfl⟩ (fun hHeld => ?_)
        clear hK K
        refine norm_ (a' := ?_) ?_ ?_
        rotate_left
        · show Act.put _ (some 20) _ = _
          simp only [Act.put, List.setIfInBounds_toArray, List.set_cons_zero, List.set_cons_succ]
          rfl
        refine two_ (i := 9) (j := 10) (Ni := some 23) (Nj := some 24) #[true, true, true, true, true, true, true, true, true, true, false, true, false, false, false, false, false, false, false] #[true, true, true, true, true, true, true, true, true, false, true, true, false, false, false, false, false, false, false] rfl rfl rfl rfl (by kernel_rfl) (by decide) (by decide) (fun K hK => ?_) (fun K hK => ?_)
        · skip
          refine app_step g7 (.tmp 21) (.tmp 22) rfl rfl rfl rfl rfl (Kd.C_below H1.out HB.out) hl1 ?_
          intro B1 d1 W' hd1 hC hb
          have nBK := Aside0.mk (blk_below BK.out hb)
          have nHB := Aside0.mk (below_step HB.out hb)
          have nF2 := Aside0.mk (Kd.C_below F2.out hb)
          clear BK HB F2 hb
          have BK := nBK
          have HB := nHB
          have F2 := nF2
          clear nBK nHB nF2
          have F1 := Aside0.mk hC
          clear hC
          refine hK.out _ _ ⟨(blk_cell BK.out 0).trans rfl, (blk_cell BK.out 1).trans rfl, (blk_cell BK.out 2).trans rfl, (blk_cell BK.out 3).trans rfl, (blk_cell BK.out 4).trans rfl, (blk_cell BK.out 5).trans rfl⟩ (fun hHeld => ?_)
          clear hK K
          refine norm_ (a' := ?_) ?_ ?_
          rotate_left
          · show Act.put _ (some 23) _ = _
            simp only [Act.put, List.setIfInBounds_toArray, List.set_cons_zero, List.set_cons_succ]
            rfl
          refine one_ (i := 10) (N := some 24) #[true, true, true, true, true, true, true, true, true, true, true, true, false, false, false, false, false, false, false] rfl rfl (by kernel_rfl) (by decide) (fun K hK => ?_)
          refine event_step rfl (by first | (go_simp; done) | (go_simp; rfl) | (go_simp; exact ⟨rfl, rfl⟩)) ?_
          refine new_lit _ _ ?_
          intro g10 W' hb
          have nBK := Aside0.mk (blk_below BK.out hb)
          have nHB := Aside0.mk (below_step HB.out hb)
          have nF2 := Aside0.mk (Kd.C_below F2.out hb)
          have nF1 := Aside0.mk (Kd.C_below F1.out hb)
          clear BK HB F2 F1 hb
          have BK := nBK
          have HB := nHB
          have F2 := nF2
          have F1 := nF1
          clear nBK nHB nF2 nF1
          refine hK.out _ _ ⟨(blk_cell BK.out 0).trans rfl, (blk_cell BK.out 1).trans rfl, (blk_cell BK.out 2).trans rfl, (blk_cell BK.out 3).trans rfl, (blk_cell BK.out 4).trans rfl, (blk_cell BK.out 5).trans rfl⟩ (fun hHeld => ?_)
          clear hK K
          refine norm_ (a' := ?_) ?_ ?_
          rotate_left
          · show Act.put _ (some 24) _ = _
            simp only [Act.put, List.setIfInBounds_toArray, List.set_cons_zero, List.set_cons_succ]
            rfl
          exact norm_ (by simp only [putAll, Act.put, List.setIfInBounds_toArray, List.set_cons_zero, List.set_cons_succ]) (hCont (B1, d1, B2, d2, g7, g10) _ ⟨BK.out, HB.out, F1.out, hd1, F2.out, hd2⟩)
        · skip
          refine event_step rfl (by first | (go_simp; done) | (go_simp; rfl) | (go_simp; exact ⟨rfl, rfl⟩)) ?_
          refine new_lit _ _ ?_
          intro g10 W' hb
          have nBK := Aside0.mk (blk_below BK.out hb)
          have nHB := Aside0.mk (below_step HB.out hb)
          have nF2 := Aside0.mk (Kd.C_below F2.out hb)
          clear BK HB F2 hb
          have BK := nBK
          have HB := nHB
          have F2 := nF2
          clear nBK nHB nF2
          refine hK.out _ _ ⟨(blk_cell BK.out 0).trans rfl, (blk_cell BK.out 1).trans rfl, (blk_cell BK.out 2).trans rfl, (blk_cell BK.out 3).trans rfl, (blk_cell BK.out 4).trans rfl, (blk_cell BK.out 5).trans rfl⟩ (fun hHeld => ?_)
          clear hK K
          refine norm_ (a' := ?_) ?_ ?_
          rotate_left
          · show Act.put _ (some 24) _ = _
            simp only [Act.put, List.setIfInBounds_toArray, List.set_cons_zero, List.set_cons_succ]
            rfl
          refine one_ (i := 9) (N := some 23) #[true, true, true, true, true, true, true, true, true, true, true, true, false, false, false, false, false, false, false] rfl rfl (by kernel_rfl) (by decide) (fun K hK => ?_)
          refine app_step g7 (.tmp 21) (.tmp 22) rfl rfl rfl rfl rfl (Kd.C_below H1.out HB.out) hl1 ?_
          intro B1 d1 W' hd1 hC hb
          have nBK := Aside0.mk (blk_below BK.out hb)
          have nHB := Aside0.mk (below_step HB.out hb)
          have nF2 := Aside0.mk (Kd.C_below F2.out hb)
          clear BK HB F2 hb
          have BK := nBK
          have HB := nHB
          have F2 := nF2
          clear nBK nHB nF2
          have F1 := Aside0.mk hC
          clear hC
          refine hK.out _ _ ⟨(blk_cell BK.out 0).trans rfl, (blk_cell BK.out 1).trans rfl, (blk_cell BK.out 2).trans rfl, (blk_cell BK.out 3).trans rfl, (blk_cell BK.out 4).trans rfl, (blk_cell BK.out 5).trans rfl⟩ (fun hHeld => ?_)
          clear hK K
          refine norm_ (a' := ?_) ?_ ?_
          rotate_left
          · show Act.put _ (some 23) _ = _
            simp only [Act.put, List.setIfInBounds_toArray, List.set_cons_zero, List.set_cons_succ]
            rfl
          exact norm_ (by simp only [putAll, Act.put, List.setIfInBounds_toArray, List.set_cons_zero, List.set_cons_succ]) (hCont (B1, d1, B2, d2, g7, g10) _ ⟨BK.out, HB.out, F1.out, hd1, F2.out, hd2⟩)
      · skip
        refine event_step rfl (by first | (go_simp; done) | (go_simp; rfl) | (go_simp; exact ⟨rfl, rfl⟩)) ?_
        refine new_lit _ _ ?_
        intro g10 W' hb
        have nBK := Aside0.mk (blk_below BK.out hb)
        have nHB := Aside0.mk (below_step HB.out hb)
        clear BK HB  hb
        have BK := nBK
        have HB := nHB
        clear nBK nHB 
        refine hK.out _ _ ⟨(blk_cell BK.out 0).trans rfl, (blk_cell BK.out 1).trans rfl, (blk_cell BK.out 2).trans rfl, (blk_cell BK.out 3).trans rfl, (blk_cell BK.out 4).trans rfl, (blk_cell BK.out 5).trans rfl⟩ (fun hHeld => ?_)
        clear hK K
        refine norm_ (a' := ?_) ?_ ?_
        rotate_left
        · show Act.put _ (some 24) _ = _
          simp only [Act.put, List.setIfInBounds_toArray, List.set_cons_zero, List.set_cons_succ]
          rfl
        refine one_ (i := 6) (N := some 20) #[true, true, true, true, true, true, true, true, true, false, true, true, false, false, false, false, false, false, false] rfl rfl (by kernel_rfl) (by decide) (fun K hK => ?_)
        refine goes_ Tryd.func48 (by kernel_rfl) rfl #[.slice A2 L.length c2] (by rfl) rfl rfl (by (try simp only [List.map_toArray, List.map_cons, List.map_nil]); first | done | rfl) ?_
        refine (impl_texts.calls _ _ c2 L L _ (Kd.C_below H2.out HB.out) hc2 htx).mono ?_
        rintro e W' ⟨v23, rfl, hS, hb⟩
        refine ⟨_, rfl, ?_⟩
        obtain ⟨B2, d2, rfl, hd2, hC⟩ := Kd.S_reads hS
        clear hS
        have nBK := Aside0.mk (blk_below BK.out hb)
        have nHB := Aside0.mk (below_step HB.out hb)
        clear BK HB  hb
        have BK := nBK
        have HB := nHB
        clear nBK nHB 
        have F2 := Aside0.mk hC
        clear hC
        refine hK.out _ _ ⟨(blk_cell BK.out 0).trans rfl, (blk_cell BK.out 1).trans rfl, (blk_cell BK.out 2).trans rfl, (blk_cell BK.out 3).trans rfl, (blk_cell BK.out 4).trans rfl, (blk_cell BK.out 5).trans rfl⟩ (fun hHeld => ?_)
        clear hK K
        refine norm_ (a' := ?_) ?_ ?_
        rotate_left
        · show Act.put _ (some 20) _ = _
          simp only [Act.put, List.setIfInBounds_toArray, List.set_cons_zero, List.set_cons_succ]
          rfl
        refine one_ (i := 9) (N := some 23) #[true, true, true, true, true, true, true, true, true, true, true, true, false, false, false, false, false, false, false] rfl rfl (by kernel_rfl) (by decide) (fun K hK => ?_)
        refine app_step g7 (.tmp 21) (.tmp 22) rfl rfl rfl rfl rfl (Kd.C_below H1.out HB.out) hl1 ?_
        intro B1 d1 W' hd1 hC hb
        have nBK := Aside0.mk (blk_below BK.out hb)
        have nHB := Aside0.mk (below_step HB.out hb)
        have nF2 := Aside0.mk (Kd.C_below F2.out hb)
        clear BK HB F2 hb
        have BK := nBK
        have HB := nHB
        have F2 := nF2
        clear nBK nHB nF2
        have F1 := Aside0.mk hC
        clear hC
        refine hK.out _ _ ⟨(blk_cell BK.out 0).trans rfl, (blk_cell BK.out 1).trans rfl, (blk_cell BK.out 2).trans rfl, (blk_cell BK.out 3).trans rfl, (blk_cell BK.out 4).trans rfl, (blk_cell BK.out 5).trans rfl⟩ (fun hHeld => ?_)
        clear hK K
        refine norm_ (a' := ?_) ?_ ?_
        rotate_left
        · show Act.put _ (some 23) _ = _
          simp only [Act.put, List.setIfInBounds_toArray, List.set_cons_zero, List.set_cons_succ]
          rfl
        exact norm_ (by simp only [putAll, Act.put, List.setIfInBounds_toArray, List.set_cons_zero, List.set_cons_succ]) (hCont (B1, d1, B2, d2, g7, g10) _ ⟨BK.out, HB.out, F1.out, hd1, F2.out, hd2⟩)
    · skip
      refine event_step rfl (by first | (go_simp; done) | (go_simp; rfl) | (go_simp; exact ⟨rfl, rfl⟩)) ?_
      refine new_lit _ _ ?_
      intro g10 W' hb
      have nBK := Aside0.mk (blk_below BK.out hb)
      have nHB := Aside0.mk (below_step HB.out hb)
      clear BK HB  hb
      have BK := nBK
      have HB := nHB
      clear nBK nHB 
      refine hK.out _ _ ⟨(blk_cell BK.out 0).trans rfl, (blk_cell BK.out 1).trans rfl, (blk_cell BK.out 2).trans rfl, (blk_cell BK.out 3).trans rfl, (blk_cell BK.out 4).trans rfl, (blk_cell BK.out 5).trans rfl⟩ (fun hHeld => ?_)
      clear hK K
      refine norm_ (a' := ?_) ?_ ?_
      rotate_left
      · show Act.put _ (some 24) _ = _
        simp only [Act.put, List.setIfInBounds_toArray, List.set_cons_zero, List.set_cons_succ]
        rfl
      refine two_ (i := 6) (j := 7) (Ni := some 20) (Nj := some 21) #[true, true, true, true, true, true, true, false, true, false, true, true, false, false, false, false, false, false, false] #[true, true, true, true, true, true, false, true, true, false, true, true, false, false, false, false, false, false, false] rfl rfl rfl rfl (by kernel_rfl) (by decide) (by decide) (fun K hK => ?_) (fun K hK => ?_)
      · skip
        refine goes_ Tryd.func48 (by kernel_rfl) rfl #[.slice A2 L.length c2] (by rfl) rfl rfl (by (try simp only [List.map_toArray, List.map_cons, List.map_nil]); first | done | rfl) ?_
        refine (impl_texts.calls _ _ c2 L L _ (Kd.C_below H2.out HB.out) hc2 htx).mono ?_
        rintro e W' ⟨v23, rfl, hS, hb⟩
        refine ⟨_, rfl, ?_⟩
        obtain ⟨B2, d2, rfl, hd2, hC⟩ := Kd.S_reads hS
        clear hS
        have nBK := Aside0.mk (blk_below BK.out hb)
        have nHB := Aside0.mk (below_step HB.out hb)
        clear BK HB  hb
        have BK := nBK
        have HB := nHB
        clear nBK nHB 
        have F2 := Aside0.mk hC
        clear hC
        refine hK.out _ _ ⟨(blk_cell BK.out 0).trans rfl, (blk_cell BK.out 1).trans rfl, (blk_cell BK.out 2).trans rfl, (blk_cell BK.out 3).trans rfl, (blk_cell BK.out 4).trans rfl, (blk_cell BK.out 5).trans rfl⟩ (fun hHeld => ?_)
        clear hK K
        refine norm_ (a' := ?_) ?_ ?_
        rotate_left
        · show Act.put _ (some 20) _ = _
          simp only [Act.put, List.setIfInBounds_toArray, List.set_cons_zero, List.set_cons_succ]
          rfl
        refine one_ (i := 7) (N := some 21) #[true, true, true, true, true, true, true, true, true, false, true, true, false, false, false, false, false, false, false] rfl rfl (by kernel_rfl) (by decide) (fun K hK => ?_)
        refine event_step rfl (by first | (go_simp; done) | (go_simp; rfl) | (go_simp; exact ⟨rfl, rfl⟩)) ?_
        refine new_lit _ _ ?_
        intro g7 W' hb
        have nBK := Aside0.mk (blk_below BK.out hb)
        have nHB := Aside0.mk (below_step HB.out hb)
        have nF2 := Aside0.mk (Kd.C_below F2.out hb)
        clear BK HB F2 hb
        have BK := nBK
        have HB := nHB
        have F2 := nF2
        clear nBK nHB nF2
        refine hK.out _ _ ⟨(blk_cell BK.out 0).trans rfl, (blk_cell BK.out 1).trans rfl, (blk_cell BK.out 2).trans rfl, (blk_cell BK.out 3).trans rfl, (blk_cell BK.out 4).trans rfl, (blk_cell BK.out 5).trans rfl⟩ (fun hHeld => ?_)
        clear hK K
        refine norm_ (a' := ?_) ?_ ?_
        rotate_left
        · show Act.put _ (some 21) _ = _
          simp only [Act.put, List.setIfInBounds_toArray, List.set_cons_zero, List.set_cons_succ]
          rfl
        refine one_ (i := 9) (N := some 23) #[true, true, true, true, true, true, true, true, true, true, true, true, false, false, false, false, false, false, false] rfl rfl (by kernel_rfl) (by decide) (fun K hK => ?_)
        refine app_step g7 (.tmp 21) (.tmp 22) rfl rfl rfl rfl rfl (Kd.C_below H1.out HB.out) hl1 ?_
        intro B1 d1 W' hd1 hC hb
        have nBK := Aside0.mk (blk_below BK.out hb)
        have nHB := Aside0.mk (below_step HB.out hb)
        have nF2 := Aside0.mk (Kd.C_below F2.out hb)
        clear BK HB F2 hb
        have BK := nBK
        have HB := nHB
        have F2 := nF2
        clear nBK nHB nF2
        have F1 := Aside0.mk hC
        clear hC
        refine hK.out _ _ ⟨(blk_cell BK.out 0).trans rfl, (blk_cell BK.out 1).trans rfl, (blk_cell BK.out 2).trans rfl, (blk_cell BK.out 3).trans rfl, (blk_cell BK.out 4).trans rfl, (blk_cell BK.out 5).trans rfl⟩ (fun hHeld => ?_)
        clear hK K
        refine norm_ (a' := ?_) ?_ ?_
        rotate_left
        · show Act.put _ (some 23) _ = _
          simp only [Act.put, List.setIfInBounds_toArray, List.set_cons_zero, List.set_cons_succ]
          rfl
        exact norm_ (by simp only [putAll, Act.put, List.setIfInBounds_toArray, List.set_cons_zero, List.set_cons_succ]) (hCont (B1, d1, B2, d2, g7, g10) _ ⟨BK.out, HB.out, F1.out, hd1, F2.out, hd2⟩)
      · skip
        refine event_step rfl (by first | (go_simp; done) | (go_simp; rfl) | (go_simp; exact ⟨rfl, rfl⟩)) ?_
        refine new_lit _ _ ?_
        intro g7 W' hb
        have nBK := Aside0.mk (blk_below BK.out hb)
        have nHB := Aside0.mk (below_step HB.out hb)
        clear BK HB  hb
        have BK := nBK
        have HB := nHB
        clear nBK nHB 
        refine hK.out _ _ ⟨(blk_cell BK.out 0).trans rfl, (blk_cell BK.out 1).trans rfl, (blk_cell BK.out 2).trans rfl, (blk_cell BK.out 3).trans rfl, (blk_cell BK.out 4).trans rfl, (blk_cell BK.out 5).trans rfl⟩ (fun hHeld => ?_)
        clear hK K
        refine norm_ (a' := ?_) ?_ ?_
        rotate_left
        · show Act.put _ (some 21) _ = _
          simp only [Act.put, List.setIfInBounds_toArray, List.set_cons_zero, List.set_cons_succ]
          rfl
        refine one_ (i := 6) (N := some 20) #[true, true, true, true, true, true, true, true, true, false, true, true, false, false, false, false, false, false, false] rfl rfl (by kernel_rfl) (by decide) (fun K hK => ?_)
        refine goes_ Tryd.func48 (by kernel_rfl) rfl #[.slice A2 L.length c2] (by rfl) rfl rfl (by (try simp only [List.map_toArray, List.map_cons, List.map_nil]); first | done | rfl) ?_
        refine (impl_texts.calls _ _ c2 L L _ (Kd.C_below H2.out HB.out) hc2 htx).mono ?_
        rintro e W' ⟨v23, rfl, hS, hb⟩
        refine ⟨_, rfl, ?_⟩
        obtain ⟨B2, d2, rfl, hd2, hC⟩ := Kd.S_reads hS
        clear hS
        have nBK := Aside0.mk (blk_below BK.out hb)
        have nHB := Aside0.mk (below_step HB.out hb)
        clear BK HB  hb
        have BK := nBK
        have HB := nHB
        clear nBK nHB 
        have F2 := Aside0.mk hC
        clear hC
        refine hK.out _ _ ⟨(blk_cell BK.out 0).trans rfl, (blk_cell BK.out 1).trans rfl, (blk_cell BK.out 2).trans rfl, (blk_cell BK.out 3).trans rfl, (blk_cell BK.out 4).trans rfl, (blk_cell BK.out 5).trans rfl⟩ (fun hHeld => ?_)
        clear hK K
        refine norm_ (a' := ?_) ?_ ?_
        rotate_left
        · show Act.put _ (some 20) _ = _
          simp only [Act.put, List.setIfInBounds_toArray, List.set_cons_zero, List.set_cons_succ]
          rfl
        refine one_ (i := 9) (N := some 23) #[true, true, true, true, true, true, true, true, true, true, true, true, false, false, false, false, false, false, false] rfl rfl (by kernel_rfl) (by decide) (fun K hK => ?_)
        refine app_step g7 (.tmp 21) (.tmp 22) rfl rfl rfl rfl rfl (Kd.C_below H1.out HB.out) hl1 ?_
        intro B1 d1 W' hd1 hC hb
        have nBK := Aside0.mk (blk_below BK.out hb)
        have nHB := Aside0.mk (below_step HB.out hb)
        have nF2 := Aside0.mk (Kd.C_below F2.out hb)
        clear BK HB F2 hb
        have BK := nBK
        have HB := nHB
        have F2 := nF2
        clear nBK nHB nF2
        have F1 := Aside0.mk hC
        clear hC
        refine hK.out _ _ ⟨(blk_cell BK.out 0).trans rfl, (blk_cell BK.out 1).trans rfl, (blk_cell BK.out 2).trans rfl, (blk_cell BK.out 3).trans rfl, (blk_cell BK.out 4).trans rfl, (blk_cell BK.out 5).trans rfl⟩ (fun hHeld => ?_)
        clear hK K
        refine norm_ (a' := ?_) ?_ ?_
        rotate_left
        · show Act.put _ (some 23) _ = _
          simp only [Act.put, List.setIfInBounds_toArray, List.set_cons_zero, List.set_cons_succ]
          rfl
        exact norm_ (by simp only [putAll, Act.put, List.setIfInBounds_toArray, List.set_cons_zero, List.set_cons_succ]) (hCont (B1, d1, B2, d2, g7, g10) _ ⟨BK.out, HB.out, F1.out, hd1, F2.out, hd2⟩)
  clear BK HB hHeld
  rintro ⟨B1, d1, B2, d2, g7, g10⟩ W1 ⟨bk, hb0, f1, hd1, f2, hd2⟩
  have BK := Aside0.mk bk
  have HB := Aside0.mk hb0
  have F1 := Aside0.mk f1
  have F2 := Aside0.mk f2
  clear bk hb0 f1 f2
  dsimp only at hd1 hd2 F1 F2
  refine norm_ (a' := ?_) ?_ ?_
  rotate_left
  · simp only [putAll, Act.put, List.setIfInBounds_toArray, List.set_cons_zero, List.set_cons_succ]
    rfl
  refine one_ (i := 12) (N := some 26) #[true, true, true, true, true, true, true, true, true, true, true, true, true, false, false, false, false, false, false] rfl rfl (by kernel_rfl) (by decide) (fun K hK => ?_)
  refine app_step g10 (.tmp 24) (.tmp 25) rfl rfl rfl rfl rfl (Kd.C_below H3.out HB.out) hl3 ?_
  intro B3 d3 W' hd3 hC hb
  have nBK := Aside0.mk (blk_below BK.out hb)
  have nHB := Aside0.mk (below_step HB.out hb)
  have nF1 := Aside0.mk (Kd.C_below F1.out hb)
  have nF2 := Aside0.mk (Kd.C_below F2.out hb)
  clear BK HB F1 F2 hb
  have BK := nBK
  have HB := nHB
  have F1 := nF1
  have F2 := nF2
  clear nBK nHB nF1 nF2
  have F3 := Aside0.mk hC
  clear hC
  refine hK.out _ _ ⟨(blk_cell BK.out 0).trans rfl, (blk_cell BK.out 1).trans rfl, (blk_cell BK.out 2).trans rfl, (blk_cell BK.out 3).trans rfl, (blk_cell BK.out 4).trans rfl, (blk_cell BK.out 5).trans rfl⟩ (fun hHeld => ?_)
  clear hK K
  refine norm_ (a' := ?_) ?_ ?_
  rotate_left
  · show Act.put _ (some 26) _ = _
    simp only [Act.put, List.setIfInBounds_toArray, List.set_cons_zero, List.set_cons_succ]
    rfl
  refine one_ (i := 13) (N := some 27) #[true, true, true, true, true, true, true, true, true, true, true, true, true, true, false, false, false, false, false] rfl rfl (by kernel_rfl) (by decide) (fun K hK => ?_)
  refine goes_ Tryd.func60 (by kernel_rfl) rfl #[toyV a0 a1 a2 a3 a4 a5, .int .u64 s1, .int .u64 s2, .slice B2 L.length d2, .slice B1 l1.length d1, .slice B3 l3.length d3] (by rfl) rfl rfl (by (try simp only [List.map_toArray, List.map_cons, List.map_nil]); first | done | rfl) ?_
  refine (HV.out _ B1 d1 B2 d2 B3 d3 HB.out F1.out hd1 F2.out hd2 F3.out hd3).mono ?_
  rintro e W' ⟨v, rfl, hb, hcv⟩
  refine ⟨_, rfl, ?_⟩
  have HCV := Aside0.mk hcv
  clear hcv
  have nBK := Aside0.mk (blk_below BK.out hb)
  have nHB := Aside0.mk (below_step HB.out hb)
  clear BK HB  hb
  have BK := nBK
  have HB := nHB
  clear nBK nHB 
  refine hK.out _ _ ⟨(blk_cell BK.out 0).trans rfl, (blk_cell BK.out 1).trans rfl, (blk_cell BK.out 2).trans rfl, (blk_cell BK.out 3).trans rfl, (blk_cell BK.out 4).trans rfl, (blk_cell BK.out 5).trans rfl⟩ (fun hHeld => ?_)
  clear hK K
  refine norm_ (a' := ?_) ?_ ?_
  rotate_left
  · show Act.put _ (some 27) _ = _
    simp only [Act.put, List.setIfInBounds_toArray, List.set_cons_zero, List.set_cons_succ]
    rfl
  refine one_ (i := 14) (N := some 28) #[true, true, true, true, true, true, true, true, true, true, true, true, true, true, true, false, false, false, false] rfl rfl (by kernel_rfl) (by decide) (fun K hK => ?_)
  refine goes_ Tryd.func59 (by kernel_rfl) rfl #[v] (by rfl) rfl rfl (by (try simp only [List.map_toArray, List.map_cons, List.map_nil]); first | done | rfl) ?_
  refine HCV.out.mono ?_
  rintro e W'' ⟨v2, rfl, hR, hb⟩
  refine ⟨_, rfl, ?_⟩
  have HR := Aside0.mk (Kd.R_lower (base' := w.heap.size) hR (below_size HB.out))
  clear hR
  have nBK := Aside0.mk (blk_below BK.out hb)
  have nHB := Aside0.mk (below_step HB.out hb)
  clear BK HB  hb
  have BK := nBK
  have HB := nHB
  clear nBK nHB 
  refine hK.out _ _ ⟨(blk_cell BK.out 0).trans rfl, (blk_cell BK.out 1).trans rfl, (blk_cell BK.out 2).trans rfl, (blk_cell BK.out 3).trans rfl, (blk_cell BK.out 4).trans rfl, (blk_cell BK.out 5).trans rfl⟩ (fun hHeld => ?_)
  clear hK K
  refine norm_ (a' := ?_) ?_ ?_
  rotate_left
  · show Act.put _ (some 28) _ = _
    simp only [Act.put, List.setIfInBounds_toArray, List.set_cons_zero, List.set_cons_succ]
    rfl
  refine pure_ (i := 15) (N := some 29) (v := ?_) (a' := ?_) #[true, true, true, true, true, true, true, true, true, true, true, true, true, true, true, true, false, false, false] rfl rfl (by kernel_rfl) (fun _ _ _ h => h) (Or.inl ⟨by rfl, ?_⟩) ?_ ?_
  rotate_left
  · intro w'
    go_simp
    with_reducible rfl
  rotate_left
  · simp only [Act.put, List.setIfInBounds_toArray, List.set_cons_zero, List.set_cons_succ]
    rfl
  refine pure_ (i := 16) (N := some 30) (v := ?_) (a' := ?_) #[true, true, true, true, true, true, true, true, true, true, true, true, true, true, true, true, true, false, false] rfl rfl (by kernel_rfl) (fun _ _ _ h => h) (Or.inl ⟨by rfl, ?_⟩) ?_ ?_
  rotate_left
  · intro w'
    go_simp
    with_reducible rfl
  rotate_left
  · simp only [Act.put, List.setIfInBounds_toArray, List.set_cons_zero, List.set_cons_succ]
    rfl
  refine pure_ (i := 17) (N := some 12) (v := ?_) (a' := ?_) #[true, true, true, true, true, true, true, true, true, true, true, true, true, true, true, true, true, true, false] rfl rfl (by kernel_rfl) (fun _ _ _ h => h) (Or.inl ⟨by rfl, ?_⟩) ?_ ?_
  rotate_left
  · intro w'
    go_simp
    with_reducible rfl
  rotate_left
  · simp only [Act.put, List.setIfInBounds_toArray, List.set_cons_zero, List.set_cons_succ]
    rfl
  refine pure_ (i := 18) (N := some 13) (v := ?_) (a' := ?_) #[true, true, true, true, true, true, true, true, true, true, true, true, true, true, true, true, true, true, true] rfl rfl (by kernel_rfl) (fun _ _ _ h => h) (Or.inl ⟨by rfl, ?_⟩) ?_ ?_
  rotate_left
  · intro w'
    go_simp
    with_reducible rfl
  rotate_left
  · simp only [Act.put, List.setIfInBounds_toArray, List.set_cons_zero, List.set_cons_succ]
    rfl
  refine done_ (by kernel_rfl) ?_
  try go_wp2
  go_ret2
  exact ⟨_, rfl, HR.out, HB.out⟩
end Go.Proofs.YtfhcpniibiobgaaDoor.Qf
