/- Several texts, joined. -/
import Derived.Test.YtfhcpniibiobgaaDoorDc
namespace Go.Proofs.YtfhcpniibiobgaaDoor.Qf
open Go.RowKit Go.Proofs.YtfhcpniibiobgaaDoorW.PrintWords Go.Proofs.YtfhcpniibiobgaaDoorW.PrintLast Go.Proofs.YtfhcpniibiobgaaDoorW.PrintMore
open Hs (CB CL at_L at_B infoB infoL R_of_blk)
theorem pow_wrap (sh : Nat) (h : sh < 64) : IntKind.u64.wrap ((2 : Int) ^ sh) = ((2 ^ sh : Nat) : Int) := by
  have hlt : 2 ^ sh < 2 ^ 64 := Nat.pow_lt_pow_right (by omega) h
  have e : ((2 : Int) ^ sh) = ((2 ^ sh : Nat) : Int) := by push_cast; rfl
  show ((2 : Int) ^ sh) % 18446744073709551616 = _
  rw [e]
  generalize 2 ^ sh = y at hlt ⊢
  omega
theorem add_w (a b : Nat) (h : a + b < 9223372036854775808) : wrap64 ((a : Int) + (b : Int)) = ((a + b : Nat) : Int) := by
  rw [w64_in _ (by omega)]
  exact (Int.natCast_add a b).symm
theorem sub_w1 (s1 p : Nat) (h : p + 1 = s1) (hlt : s1 < 18446744073709551616) : IntKind.u64.wrap ((s1 : Int) - 1) = (p : Int) := by
  rw [show (s1 : Int) - 1 = (p : Int) by omega]
  show (p : Int) % 18446744073709551616 = _
  omega
theorem sub_w (a b c : Nat) (h : c + b = a) (hlt : a < 9223372036854775808) : wrap64 ((a : Int) - (b : Int)) = (c : Int) := by
  rw [w64_in _ (by omega)]
  omega
theorem zero_w (a : Nat) (hlt : a < 9223372036854775808) : wrap64 (0 + (a : Int)) = (a : Int) := by
  rw [w64_in _ (by omega)]
  omega
set_option maxHeartbeats 2000000 in
set_option maxRecDepth 100000 in
theorem vc_err5 (a0 a1 a2 a3 a4 a5 : Int) (s1 s2 p : Nat) (A : Option Addr) (c : Nat) (l : List (List Int)) (A1 : Option Addr) (n1 c1 : Nat) (A2 : Option Addr) (n2 c2 : Nat) (inner border sh inn st : Nat) (w : World) (hl : CL w A l) (hll : l.length ≤ 5864062014805) (HG_ : Glob w) (hs1 : 0 < s1) (hs12 : s1 < s2) (hs2 : s2 < 18446744073709551616) (hp : p + 1 = s1) (hnl : 0 < l.length)
    (hd : proof_decompInclProof.f (p : Int) (s2 : Int) = some ((inner : Int), (border : Int))) (hz : bits_TrailingZeros64.f (s1 : Int) = some (sh : Int)) (hsh : sh < 64) (hin : inn + sh = inner) (hin2 : inner ≤ 64) (hbo : border ≤ 64) (hst : st = if s1 = 2 ^ sh then 0 else 1) (hn : l.length ≠ st + inn + border) :
    Calls Tryd.prog 60 #[toyV a0 a1 a2 a3 a4 a5, .int .u64 (s1 : Nat), .int .u64 (s2 : Nat), .slice A l.length c, .slice A1 n1 c1, .slice A2 n2 c2] w fun e w' => ∃ x, e = .returned (.iface 175 (.pointer (some x))) ∧ Below w.heap.size w w' := by
  have HST := Aside0.mk hst
  clear hst
  have t1_ : decide (s2 < s1) = false := decide_eq_false (by omega)
  have t1i : decide ((s2 : Int) < (s1 : Int)) = false := decide_eq_false (by omega)
  have t2_ : (s1 == s2) = false := beq_eq_false_iff_ne.2 (by omega)
  have t2i : ((s1 : Int) == (s2 : Int)) = false := beq_eq_false_iff_ne.2 (by omega)
  have t3_ : (s1 == 0) = false := beq_eq_false_iff_ne.2 (by omega)
  have t3i : ((s1 : Int) == 0) = false := beq_eq_false_iff_ne.2 (by omega)
  have t4_ : (l.length == 0) = false := beq_eq_false_iff_ne.2 (by omega)
  have t4i : ((l.length : Int) == 0) = false := beq_eq_false_iff_ne.2 (by omega)
  have b0 : s1 < 18446744073709551616 := by omega
  have b1 : inner < 9223372036854775808 := by omega
  have b2 : inn < 9223372036854775808 := by omega
  have b3 : inn + border < 9223372036854775808 := by omega
  have b4 : 1 + inn < 9223372036854775808 := by omega
  have b5 : 1 + inn + border < 9223372036854775808 := by omega
  have hw1 := sub_w1 s1 p hp b0
  have hw2 : ∀ z : Int, z = (sh : Int) → wrap64 ((inner : Int) - z) = (inn : Int) := fun z hz => by rw [hz]; exact sub_w inner sh inn hin b1
  have HL := Aside0.mk hl
  have HG := Aside0.mk HG_
  have HD := Aside0.mk hd
  have HZ := Aside0.mk hz
  have HB := Aside0.mk (Below.refl w.heap.size w)
  obtain ⟨ad, Ah, ch, ead, hx, hlh, hCh⟩ := at_L HL.out 0 hnl
  cases ead
  rw [Addr.add_zero'] at hx
  clear hCh hlh hl HG_ hd hz
  by_cases hpw : s1 = 2 ^ sh
  · have hst := HST.out
    clear HST
    rw [if_pos hpw] at hst
    subst hst
    have hpo := pow_wrap sh hsh
    have t5w : ((s1 : Int) == IntKind.u64.wrap ((2 : Int) ^ sh)) = true := beq_iff_eq.2 (by rw [hpo, hpw])
    clear hpw hpo
    have t6_ : ((l.length : Int) != ((inn + border : Nat) : Int)) = true := bne_iff_ne.2 (fun h => hn (by rw [Nat.zero_add]; exact Int.ofNat_inj.1 h))
    have hw3 : ∀ z : Int, z = 0 → wrap64 (z + (inn : Int)) = (inn : Int) := fun z hz => by rw [hz]; exact zero_w inn b2
    have hw4 : ∀ z : Int, z = (border : Int) → wrap64 ((inn : Int) + z) = ((inn + border : Nat) : Int) := fun z hz => by rw [hz]; exact add_w inn border b3
    clear hn
    go_enter Tryd.func60, Tryd.ntmps60
    go_wp2_with (first
      | (go_at_call 93; (with_reducible refine (proof_decompInclProof.calls _ _ _ _ _ HD.out).mono ?_); rintro e w2 ⟨rfl, hb⟩; have HG := Aside0.mk (Glob.below HG.out hb.below); have HB := Aside0.mk (below_then HB.out HB.out.size hb.below); have hx2 := pw_cell_below HB.out hx; clear hb)
      | (go_at_call 89; (with_reducible refine (bits_TrailingZeros64.calls _ _ _ HG.out HZ.out).mono ?_); rintro e w3 ⟨rfl, hb⟩; have HB := Aside0.mk (below_then HB.out HB.out.size hb.below); have hx3 := pw_cell_below HB.out hx; clear hb)
      | (go_at_call 87; (with_reducible refine (errors_New.err _ _).mono ?_); rintro e w4 ⟨x, rfl, hb⟩; have HB := Aside0.mk (below_then HB.out HB.out.size hb); clear hb))
    go_ret
    exact ⟨_, rfl, HB.out⟩
  · have hst := HST.out
    clear HST
    rw [if_neg hpw] at hst
    subst hst
    have hpo := pow_wrap sh hsh
    have t5w : ((s1 : Int) == IntKind.u64.wrap ((2 : Int) ^ sh)) = false := beq_eq_false_iff_ne.2 (by rw [hpo]; exact fun h => hpw (Int.ofNat_inj.1 h))
    clear hpw hpo
    have t6_ : ((l.length : Int) != ((1 + inn + border : Nat) : Int)) = true := bne_iff_ne.2 (fun h => hn (Int.ofNat_inj.1 h))
    have hw3 : ∀ z : Int, z = (inn : Int) → wrap64 (1 + z) = ((1 + inn : Nat) : Int) := fun z hz => by rw [hz]; exact add_w 1 inn b4
    have hw4 : ∀ z : Int, z = (border : Int) → wrap64 (((1 + inn : Nat) : Int) + z) = ((1 + inn + border : Nat) : Int) := fun z hz => by rw [hz]; exact add_w (1 + inn) border b5
    clear hn
    go_enter Tryd.func60, Tryd.ntmps60
    go_wp2_with (first
      | (go_at_call 93; (with_reducible refine (proof_decompInclProof.calls _ _ _ _ _ HD.out).mono ?_); rintro e w2 ⟨rfl, hb⟩; have HG := Aside0.mk (Glob.below HG.out hb.below); have HB := Aside0.mk (below_then HB.out HB.out.size hb.below); have hx2 := pw_cell_below HB.out hx; clear hb)
      | (go_at_call 89; (with_reducible refine (bits_TrailingZeros64.calls _ _ _ HG.out HZ.out).mono ?_); rintro e w3 ⟨rfl, hb⟩; have HB := Aside0.mk (below_then HB.out HB.out.size hb.below); have hx3 := pw_cell_below HB.out hx; clear hb)
      | (go_at_call 87; (with_reducible refine (errors_New.err _ _).mono ?_); rintro e w4 ⟨x, rfl, hb⟩; have HB := Aside0.mk (below_then HB.out HB.out.size hb); clear hb))
    go_ret
    exact ⟨_, rfl, HB.out⟩
end Go.Proofs.YtfhcpniibiobgaaDoor.Qf
namespace Go.Proofs.YtfhcpniibiobgaaDoor.Qf
open Go.RowKit Go.Proofs.YtfhcpniibiobgaaDoorW.PrintWords Go.Proofs.YtfhcpniibiobgaaDoorW.PrintLast Go.Proofs.YtfhcpniibiobgaaDoorW.PrintMore
open Hs (CB CL at_L at_B infoB infoL R_of_blk)


theorem chainRight_n (a0 a1 a2 a3 a4 a5 ix : Int) (A1 : Option Addr) (c1 : Nat) (s : List Int) (A2 : Option Addr) (c2 : Nat) (l : List (List Int)) (n : Nat) (hn : n = l.length) (r : List Int) (w : World) (hs : CB w A1 s) (hsc : s.length ≤ c1) (hl : CL w A2 l) (hll : l.length ≤ 5864062014805) (h : chainR a0 a1 a2 a3 a4 a5 ix l s 0 = some r) :
    Calls Tryd.prog 94 #[toyV a0 a1 a2 a3 a4 a5, .slice A1 s.length c1, .slice A2 n c2, .int .u64 ix] w fun e w' => ∃ A c, e = .returned (.slice A r.length c) ∧ r.length ≤ c ∧ CB w' A r ∧ Below w.heap.size w w' := by
  subst hn
  exact chainRight_calls a0 a1 a2 a3 a4 a5 ix A1 c1 s A2 c2 l r w hs hsc hl hll h
theorem chainInner_n (a0 a1 a2 a3 a4 a5 ix : Int) (A1 : Option Addr) (c1 : Nat) (s : List Int) (A2 : Option Addr) (c2 : Nat) (l : List (List Int)) (n : Nat) (hn : n = l.length) (r : List Int) (w : World) (hs : CB w A1 s) (hsc : s.length ≤ c1) (hl : CL w A2 l) (hll : l.length ≤ 5864062014805) (h : chainI a0 a1 a2 a3 a4 a5 ix l s 0 = some r) :
    Calls Tryd.prog 95 #[toyV a0 a1 a2 a3 a4 a5, .slice A1 s.length c1, .slice A2 n c2, .int .u64 ix] w fun e w' => ∃ A c, e = .returned (.slice A r.length c) ∧ r.length ≤ c ∧ CB w' A r ∧ Below w.heap.size w w' := by
  subst hn
  exact chainInner_calls a0 a1 a2 a3 a4 a5 ix A1 c1 s A2 c2 l r w hs hsc hl hll h
theorem chainBorder_n (a0 a1 a2 a3 a4 a5 : Int) (A1 : Option Addr) (c1 : Nat) (s : List Int) (A2 : Option Addr) (c2 : Nat) (l : List (List Int)) (n : Nat) (hn : n = l.length) (r : List Int) (w : World) (hs : CB w A1 s) (hsc : s.length ≤ c1) (hl : CL w A2 l) (hll : l.length ≤ 5864062014805) (h : chainB a0 a1 a2 a3 a4 a5 l s = some r) :
    Calls Tryd.prog 91 #[toyV a0 a1 a2 a3 a4 a5, .slice A1 s.length c1, .slice A2 n c2] w fun e w' => ∃ A c, e = .returned (.slice A r.length c) ∧ r.length ≤ c ∧ CB w' A r ∧ Below w.heap.size w w' := by
  subst hn
  exact chainBorder_calls a0 a1 a2 a3 a4 a5 A1 c1 s A2 c2 l r w hs hsc hl hll h
set_option maxHeartbeats 2000000 in
set_option maxRecDepth 100000 in
theorem vc_pow_no1 (a0 a1 a2 a3 a4 a5 : Int) (s1 s2 p : Nat) (A : Option Addr) (c : Nat) (l : List (List Int)) (A1 : Option Addr) (c1 : Nat) (r1 : List Int) (A2 : Option Addr) (c2 : Nat) (r2 : List Int) (inner border sh inn : Nat) (q1 q : List Int) (w : World) (hl : CL w A l) (hlc : l.length ≤ c) (hll : l.length ≤ 5864062014805) (h1 : CB w A1 r1) (hc1 : r1.length ≤ c1) (h2 : CB w A2 r2) (hc2 : r2.length ≤ c2) (HG_ : Glob w) (hs1 : 0 < s1) (hs12 : s1 < s2) (hs2 : s2 < 18446744073709551616) (hp : p + 1 = s1) (hnl : 0 < l.length) (hd : proof_decompInclProof.f (p : Int) (s2 : Int) = some ((inner : Int), (border : Int))) (hz : bits_TrailingZeros64.f (s1 : Int) = some (sh : Int)) (hsh : sh < 64) (hin : inn + sh = inner) (hin2 : inner ≤ 64) (hbo : border ≤ 64) (hpw : s1 = 2 ^ sh) (hn : l.length = 0 + inn + border) (e1 : chainR a0 a1 a2 a3 a4 a5 ((p : Int) / 2 ^ min sh 64) (l.take inn) r1 0 = some q1) (e2 : chainB a0 a1 a2 a3 a4 a5 (l.drop inn) q1 = some q) (e3 : sameB q r1 = false) :
    Calls Tryd.prog 60 #[toyV a0 a1 a2 a3 a4 a5, .int .u64 (s1 : Nat), .int .u64 (s2 : Nat), .slice A l.length c, .slice A1 r1.length c1, .slice A2 r2.length c2] w fun e w' => ∃ A' c', e = .returned (.iface 156 (.agg #[.slice A1 r1.length c1, .slice A' q.length c'])) ∧ q.length ≤ c' ∧ CB w' A' q ∧ Below w.heap.size w w' := by
  have hpo := pow_wrap sh hsh
  have t5w : ((s1 : Int) == IntKind.u64.wrap ((2 : Int) ^ min sh 64)) = true := beq_iff_eq.2 (by rw [Nat.min_eq_left (by omega), hpo, hpw])
  clear hpw hpo
  have t1_ : decide (s2 < s1) = false := decide_eq_false (by omega)
  have t1i : decide ((s2 : Int) < (s1 : Int)) = false := decide_eq_false (by omega)
  have t2_ : (s1 == s2) = false := beq_eq_false_iff_ne.2 (by omega)
  have t2i : ((s1 : Int) == (s2 : Int)) = false := beq_eq_false_iff_ne.2 (by omega)
  have t3_ : (s1 == 0) = false := beq_eq_false_iff_ne.2 (by omega)
  have t3i : ((s1 : Int) == 0) = false := beq_eq_false_iff_ne.2 (by omega)
  have t4_ : (l.length == 0) = false := beq_eq_false_iff_ne.2 (by omega)
  have t4i : ((l.length : Int) == 0) = false := beq_eq_false_iff_ne.2 (by omega)
  have b0 : s1 < 18446744073709551616 := by omega
  have b1 : inner < 9223372036854775808 := by omega
  have b2 : inn < 9223372036854775808 := by omega
  have b3 : inn + border < 9223372036854775808 := by omega
  have b4 : 1 + inn < 9223372036854775808 := by omega
  have b5 : 1 + inn + border < 9223372036854775808 := by omega
  have t6_ : ((l.length : Int) != ((inn + border : Nat) : Int)) = false := bne_eq_false_iff_eq.2 (by omega)
  have HL := Aside0.mk hl
  have H1 := Aside0.mk h1
  have H2 := Aside0.mk h2
  have HG := Aside0.mk HG_
  have HD := Aside0.mk hd
  have HZ := Aside0.mk hz
  have HB := Aside0.mk (Below.refl w.heap.size w)
  obtain ⟨ad, Ah, ch, ead, hx, hlh, hCh⟩ := at_L HL.out 0 hnl
  cases ead
  rw [Addr.add_zero'] at hx
  have HCh := Aside0.mk hCh
  have HLh := Aside0.mk hlh
  clear hCh hlh
  obtain ⟨iL, hiL, hsL⟩ := Option.map_eq_some_iff.1 infoL
  simp only [Prod.mk.injEq] at hsL
  have HK := HL
  have HKC : Aside0 (l.length ≤ c) := ⟨hlc⟩
  have HKN : Aside0 (l.length = inn + border) := ⟨by omega⟩
  have HSD := H1
  have HSC : Aside0 (r1.length ≤ c1) := ⟨hc1⟩
  have hcut1 : ∀ W : World, (Instr.slice 25 (.slice (some ad) l.length c) none (some (.int .i64 (inn : Int))) none).run Tryd.prog W = .ok (.slice (some ad) (l.take inn).length c) W := fun W => by
    have h := cut_to (P := Tryd.prog) 25 28 .i64 Tryd.underlying25 hiL (some ad) l.length c (inn : Int) (by omega) (by have := HKN.out; omega) HKC.out W
    rw [Int.toNat_natCast] at h
    rw [show (l.take inn).length = inn by rw [List.length_take]; have := HKN.out; omega]
    exact h
  have hcut2 : ∀ W : World, (Instr.slice 25 (.slice (some ad) l.length c) (some (.int .i64 (inn : Int))) none none).run Tryd.prog W = .ok (.slice (if c = inn then (some ad) else ((some ad) : Option Addr).map (·.add (inn * 1))) (l.drop inn).length (c - inn)) W := fun W => by
    have h := cut_from (P := Tryd.prog) 25 28 .i64 Tryd.underlying25 hiL 1 hsL.2.1 (some ad) l.length c (inn : Int) (by omega) (by have := HKN.out; omega) W
    rw [Int.toNat_natCast] at h
    rw [List.length_drop]
    exact h
  have HT := Aside0.mk (Kd.C_take (m := inn) HK.out (by have := HKN.out; omega))
  have HR : Aside0 (CL w (if c = inn then (some ad) else ((some ad) : Option Addr).map (·.add (inn * 1))) (l.drop inn)) := ⟨Kd.C_drop (m := inn) (c := c) HK.out (by have := HKN.out; omega) HKC.out⟩
  generalize (if c = inn then (some ad) else ((some ad) : Option Addr).map (·.add (inn * 1))) = Ax at hcut2 HR
  have HTL : Aside0 ((l.take inn).length ≤ 64) := ⟨by rw [List.length_take]; omega⟩
  have HTE : Aside0 ((l.take inn).length = inn) := ⟨by rw [List.length_take]; have := HKN.out; omega⟩
  have HDE : Aside0 ((l.drop inn).length = border) := ⟨by rw [List.length_drop]; have := HKN.out; omega⟩
  have HDL : Aside0 ((l.drop inn).length ≤ 64) := ⟨by rw [List.length_drop]; have := HKN.out; omega⟩
  have E1 := Aside0.mk e1
  have E2 := Aside0.mk e2
  have E3 := Aside0.mk e3
  have H1C := Aside0.mk hc1
  have H2C := Aside0.mk hc2
  generalize l.take inn = lt at hcut1 HT HTL HTE E1
  generalize l.drop inn = ld at hcut2 HR HDL HDE E2
  have hw1 := sub_w1 s1 p hp b0
  have hsw : ∀ z : Int, z = (sh : Int) → IntKind.u64.wrap z = (sh : Int) := fun z hz => by rw [hz]; show (sh : Int) % 18446744073709551616 = _; omega
  have hw2 : ∀ z : Int, z = (sh : Int) → wrap64 ((inner : Int) - z) = (inn : Int) := fun z hz => by rw [hz]; exact sub_w inner sh inn hin b1
  have hw3 : ∀ z : Int, z = (inn : Int) → wrap64 z = (inn : Int) := fun z hz => by rw [hz]; exact w64_in _ (by omega)
  have hw4 : ∀ z : Int, z = (border : Int) → wrap64 ((inn : Int) + z) = (l.length : Int) := fun z hz => by rw [hz, hn, Nat.zero_add]; exact add_w inn border b3
  clear b0 b1 b2 b3 b4 b5 e1 e2 e3 hn hs12 hs2 hp hll hlc hin hin2 hbo hs1 hc1 hc2 hl h1 h2 HG_ hd hz hiL hsL HK HKC HKN hsh
  go_enter Tryd.func60, Tryd.ntmps60
  go_wp2_with (first
    | (go_at_call 93; (with_reducible refine (proof_decompInclProof.calls _ _ _ _ _ HD.out).mono ?_); rintro e w2 ⟨rfl, hb⟩; have HG := Aside0.mk (Glob.below HG.out hb.below); have HB := Aside0.mk (below_then HB.out HB.out.size hb.below); have hx2 := pw_cell_below HB.out hx; clear hb)
    | (go_at_call 89; (with_reducible refine (bits_TrailingZeros64.calls _ _ _ HG.out HZ.out).mono ?_); rintro e w3 ⟨rfl, hb⟩; have HB := Aside0.mk (below_then HB.out HB.out.size hb.below); have hx3 := pw_cell_below HB.out hx; clear hb)
    | (go_at_call 94; (with_reducible refine (chainRight_n a0 a1 a2 a3 a4 a5 _ _ _ r1 _ _ lt _ (by first | rfl | (have := HTE.out; omega)) q1 _ (Kd.C_below HSD.out HB.out) HSC.out (Kd.C_below HT.out HB.out) (by have := HTL.out; omega) E1.out).mono ?_); rintro e w4 ⟨A3, c3, rfl, hl3, hC3, hb⟩; have HB := Aside0.mk (below_then HB.out HB.out.size hb); have HC3 := Aside0.mk hC3; have HL3 := Aside0.mk hl3; clear hC3 hb hl3)
    | (go_at_call 91; (with_reducible refine (chainBorder_n a0 a1 a2 a3 a4 a5 _ _ q1 _ _ ld _ (by first | rfl | (have := HDE.out; omega)) q _ HC3.out HL3.out (Kd.C_below HR.out HB.out) (by have := HDL.out; omega) E2.out).mono ?_); rintro e w5 ⟨A4, c4, rfl, hl4, hC4, hb⟩; have HB := Aside0.mk (below_then HB.out HB.out.size hb); have HC4 := Aside0.mk hC4; have HL4 := Aside0.mk hl4; clear hC4 hb hl4)
    | (go_at_call 92; (with_reducible refine (match_no _ _ q _ _ r1 _ HC4.out HL4.out (Kd.C_below H1.out HB.out) H1C.out E3.out).mono ?_); rintro e w6 ⟨rfl, hb⟩; have HB := Aside0.mk (below_then HB.out HB.out.size hb); have HC4 := Aside0.mk (Kd.C_below HC4.out hb); clear hb))
  go_ret
  exact ⟨_, _, rfl, HL4.out, HC4.out, HB.out⟩

set_option maxHeartbeats 2000000 in
set_option maxRecDepth 100000 in
theorem vc_pow_no2 (a0 a1 a2 a3 a4 a5 : Int) (s1 s2 p : Nat) (A : Option Addr) (c : Nat) (l : List (List Int)) (A1 : Option Addr) (c1 : Nat) (r1 : List Int) (A2 : Option Addr) (c2 : Nat) (r2 : List Int) (inner border sh inn : Nat) (q1 q : List Int) (t1 t : List Int) (w : World) (hl : CL w A l) (hlc : l.length ≤ c) (hll : l.length ≤ 5864062014805) (h1 : CB w A1 r1) (hc1 : r1.length ≤ c1) (h2 : CB w A2 r2) (hc2 : r2.length ≤ c2) (HG_ : Glob w) (hs1 : 0 < s1) (hs12 : s1 < s2) (hs2 : s2 < 18446744073709551616) (hp : p + 1 = s1) (hnl : 0 < l.length) (hd : proof_decompInclProof.f (p : Int) (s2 : Int) = some ((inner : Int), (border : Int))) (hz : bits_TrailingZeros64.f (s1 : Int) = some (sh : Int)) (hsh : sh < 64) (hin : inn + sh = inner) (hin2 : inner ≤ 64) (hbo : border ≤ 64) (hpw : s1 = 2 ^ sh) (hn : l.length = 0 + inn + border) (e1 : chainR a0 a1 a2 a3 a4 a5 ((p : Int) / 2 ^ min sh 64) (l.take inn) r1 0 = some q1) (e2 : chainB a0 a1 a2 a3 a4 a5 (l.drop inn) q1 = some q) (e3 : sameB q r1 = true) (e4 : chainI a0 a1 a2 a3 a4 a5 ((p : Int) / 2 ^ min sh 64) (l.take inn) r1 0 = some t1) (e5 : chainB a0 a1 a2 a3 a4 a5 (l.drop inn) t1 = some t) (e6 : sameB t r2 = false) :
    Calls Tryd.prog 60 #[toyV a0 a1 a2 a3 a4 a5, .int .u64 (s1 : Nat), .int .u64 (s2 : Nat), .slice A l.length c, .slice A1 r1.length c1, .slice A2 r2.length c2] w fun e w' => ∃ A' c', e = .returned (.iface 156 (.agg #[.slice A2 r2.length c2, .slice A' t.length c'])) ∧ t.length ≤ c' ∧ CB w' A' t ∧ Below w.heap.size w w' := by
  have hpo := pow_wrap sh hsh
  have t5w : ((s1 : Int) == IntKind.u64.wrap ((2 : Int) ^ min sh 64)) = true := beq_iff_eq.2 (by rw [Nat.min_eq_left (by omega), hpo, hpw])
  clear hpw hpo
  have t1_ : decide (s2 < s1) = false := decide_eq_false (by omega)
  have t1i : decide ((s2 : Int) < (s1 : Int)) = false := decide_eq_false (by omega)
  have t2_ : (s1 == s2) = false := beq_eq_false_iff_ne.2 (by omega)
  have t2i : ((s1 : Int) == (s2 : Int)) = false := beq_eq_false_iff_ne.2 (by omega)
  have t3_ : (s1 == 0) = false := beq_eq_false_iff_ne.2 (by omega)
  have t3i : ((s1 : Int) == 0) = false := beq_eq_false_iff_ne.2 (by omega)
  have t4_ : (l.length == 0) = false := beq_eq_false_iff_ne.2 (by omega)
  have t4i : ((l.length : Int) == 0) = false := beq_eq_false_iff_ne.2 (by omega)
  have b0 : s1 < 18446744073709551616 := by omega
  have b1 : inner < 9223372036854775808 := by omega
  have b2 : inn < 9223372036854775808 := by omega
  have b3 : inn + border < 9223372036854775808 := by omega
  have b4 : 1 + inn < 9223372036854775808 := by omega
  have b5 : 1 + inn + border < 9223372036854775808 := by omega
  have t6_ : ((l.length : Int) != ((inn + border : Nat) : Int)) = false := bne_eq_false_iff_eq.2 (by omega)
  have HL := Aside0.mk hl
  have H1 := Aside0.mk h1
  have H2 := Aside0.mk h2
  have HG := Aside0.mk HG_
  have HD := Aside0.mk hd
  have HZ := Aside0.mk hz
  have HB := Aside0.mk (Below.refl w.heap.size w)
  obtain ⟨ad, Ah, ch, ead, hx, hlh, hCh⟩ := at_L HL.out 0 hnl
  cases ead
  rw [Addr.add_zero'] at hx
  have HCh := Aside0.mk hCh
  have HLh := Aside0.mk hlh
  clear hCh hlh
  obtain ⟨iL, hiL, hsL⟩ := Option.map_eq_some_iff.1 infoL
  simp only [Prod.mk.injEq] at hsL
  have HK := HL
  have HKC : Aside0 (l.length ≤ c) := ⟨hlc⟩
  have HKN : Aside0 (l.length = inn + border) := ⟨by omega⟩
  have HSD := H1
  have HSC : Aside0 (r1.length ≤ c1) := ⟨hc1⟩
  have hcut1 : ∀ W : World, (Instr.slice 25 (.slice (some ad) l.length c) none (some (.int .i64 (inn : Int))) none).run Tryd.prog W = .ok (.slice (some ad) (l.take inn).length c) W := fun W => by
    have h := cut_to (P := Tryd.prog) 25 28 .i64 Tryd.underlying25 hiL (some ad) l.length c (inn : Int) (by omega) (by have := HKN.out; omega) HKC.out W
    rw [Int.toNat_natCast] at h
    rw [show (l.take inn).length = inn by rw [List.length_take]; have := HKN.out; omega]
    exact h
  have hcut2 : ∀ W : World, (Instr.slice 25 (.slice (some ad) l.length c) (some (.int .i64 (inn : Int))) none none).run Tryd.prog W = .ok (.slice (if c = inn then (some ad) else ((some ad) : Option Addr).map (·.add (inn * 1))) (l.drop inn).length (c - inn)) W := fun W => by
    have h := cut_from (P := Tryd.prog) 25 28 .i64 Tryd.underlying25 hiL 1 hsL.2.1 (some ad) l.length c (inn : Int) (by omega) (by have := HKN.out; omega) W
    rw [Int.toNat_natCast] at h
    rw [List.length_drop]
    exact h
  have HT := Aside0.mk (Kd.C_take (m := inn) HK.out (by have := HKN.out; omega))
  have HR : Aside0 (CL w (if c = inn then (some ad) else ((some ad) : Option Addr).map (·.add (inn * 1))) (l.drop inn)) := ⟨Kd.C_drop (m := inn) (c := c) HK.out (by have := HKN.out; omega) HKC.out⟩
  generalize (if c = inn then (some ad) else ((some ad) : Option Addr).map (·.add (inn * 1))) = Ax at hcut2 HR
  have HTL : Aside0 ((l.take inn).length ≤ 64) := ⟨by rw [List.length_take]; omega⟩
  have HTE : Aside0 ((l.take inn).length = inn) := ⟨by rw [List.length_take]; have := HKN.out; omega⟩
  have HDE : Aside0 ((l.drop inn).length = border) := ⟨by rw [List.length_drop]; have := HKN.out; omega⟩
  have HDL : Aside0 ((l.drop inn).length ≤ 64) := ⟨by rw [List.length_drop]; have := HKN.out; omega⟩
  have E1 := Aside0.mk e1
  have E2 := Aside0.mk e2
  have E3 := Aside0.mk e3
  have E4 := Aside0.mk e4
  have E5 := Aside0.mk e5
  have E6 := Aside0.mk e6
  clear e4 e5 e6
  have H1C := Aside0.mk hc1
  have H2C := Aside0.mk hc2
  generalize l.take inn = lt at hcut1 HT HTL HTE E1 E4
  generalize l.drop inn = ld at hcut2 HR HDL HDE E2 E5
  have hw1 := sub_w1 s1 p hp b0
  have hsw : ∀ z : Int, z = (sh : Int) → IntKind.u64.wrap z = (sh : Int) := fun z hz => by rw [hz]; show (sh : Int) % 18446744073709551616 = _; omega
  have hw2 : ∀ z : Int, z = (sh : Int) → wrap64 ((inner : Int) - z) = (inn : Int) := fun z hz => by rw [hz]; exact sub_w inner sh inn hin b1
  have hw3 : ∀ z : Int, z = (inn : Int) → wrap64 z = (inn : Int) := fun z hz => by rw [hz]; exact w64_in _ (by omega)
  have hw4 : ∀ z : Int, z = (border : Int) → wrap64 ((inn : Int) + z) = (l.length : Int) := fun z hz => by rw [hz, hn, Nat.zero_add]; exact add_w inn border b3
  clear b0 b1 b2 b3 b4 b5 e1 e2 e3 hn hs12 hs2 hp hll hlc hin hin2 hbo hs1 hc1 hc2 hl h1 h2 HG_ hd hz hiL hsL HK HKC HKN hsh
  go_enter Tryd.func60, Tryd.ntmps60
  go_wp2_with (first
    | (go_at_call 93; (with_reducible refine (proof_decompInclProof.calls _ _ _ _ _ HD.out).mono ?_); rintro e w2 ⟨rfl, hb⟩; have HG := Aside0.mk (Glob.below HG.out hb.below); have HB := Aside0.mk (below_then HB.out HB.out.size hb.below); have hx2 := pw_cell_below HB.out hx; clear hb)
    | (go_at_call 89; (with_reducible refine (bits_TrailingZeros64.calls _ _ _ HG.out HZ.out).mono ?_); rintro e w3 ⟨rfl, hb⟩; have HB := Aside0.mk (below_then HB.out HB.out.size hb.below); have hx3 := pw_cell_below HB.out hx; clear hb)
    | (go_at_call 94; (with_reducible refine (chainRight_n a0 a1 a2 a3 a4 a5 _ _ _ r1 _ _ lt _ (by first | rfl | (have := HTE.out; omega)) q1 _ (Kd.C_below HSD.out HB.out) HSC.out (Kd.C_below HT.out HB.out) (by have := HTL.out; omega) E1.out).mono ?_); rintro e w4 ⟨A3, c3, rfl, hl3, hC3, hb⟩; have HB := Aside0.mk (below_then HB.out HB.out.size hb); have HC3 := Aside0.mk hC3; have HL3 := Aside0.mk hl3; clear hC3 hb hl3)
    | (go_at_call 91; (with_reducible refine (chainBorder_n a0 a1 a2 a3 a4 a5 _ _ q1 _ _ ld _ (by first | rfl | (have := HDE.out; omega)) q _ HC3.out HL3.out (Kd.C_below HR.out HB.out) (by have := HDL.out; omega) E2.out).mono ?_); rintro e w5 ⟨A4, c4, rfl, hl4, hC4, hb⟩; have HB := Aside0.mk (below_then HB.out HB.out.size hb); have HC4 := Aside0.mk hC4; have HL4 := Aside0.mk hl4; clear hC4 hb hl4)
    | (go_at_call 92; (with_reducible refine (match_yes _ _ q _ _ r1 _ HC4.out HL4.out (Kd.C_below H1.out HB.out) H1C.out E3.out).mono ?_); rintro e w6 ⟨rfl, hb⟩; have HB := Aside0.mk (below_then HB.out HB.out.size hb); clear hb)
    | (go_at_call 95; (with_reducible refine (chainInner_n a0 a1 a2 a3 a4 a5 _ _ _ r1 _ _ lt _ (by first | rfl | (have := HTE.out; omega)) t1 _ (Kd.C_below HSD.out HB.out) HSC.out (Kd.C_below HT.out HB.out) (by have := HTL.out; omega) E4.out).mono ?_); rintro e w7 ⟨A5, c5, rfl, hl5, hC5, hb⟩; have HB := Aside0.mk (below_then HB.out HB.out.size hb); have HC5 := Aside0.mk hC5; have HL5 := Aside0.mk hl5; clear hC5 hb hl5)
    | (go_at_call 91; (with_reducible refine (chainBorder_n a0 a1 a2 a3 a4 a5 _ _ t1 _ _ ld _ (by first | rfl | (have := HDE.out; omega)) t _ HC5.out HL5.out (Kd.C_below HR.out HB.out) (by have := HDL.out; omega) E5.out).mono ?_); rintro e w8 ⟨A6, c6, rfl, hl6, hC6, hb⟩; have HB := Aside0.mk (below_then HB.out HB.out.size hb); have HC6 := Aside0.mk hC6; have HL6 := Aside0.mk hl6; clear hC6 hb hl6)
    | (go_at_call 92; (with_reducible refine (match_no _ _ t _ _ r2 _ HC6.out HL6.out (Kd.C_below H2.out HB.out) H2C.out E6.out).mono ?_); rintro e w9 ⟨rfl, hb⟩; have HB := Aside0.mk (below_then HB.out HB.out.size hb); have HC6 := Aside0.mk (Kd.C_below HC6.out hb); clear hb))
  go_ret
  exact ⟨_, _, rfl, HL6.out, HC6.out, HB.out⟩

set_option maxHeartbeats 2000000 in
set_option maxRecDepth 100000 in
theorem vc_pow_yes (a0 a1 a2 a3 a4 a5 : Int) (s1 s2 p : Nat) (A : Option Addr) (c : Nat) (l : List (List Int)) (A1 : Option Addr) (c1 : Nat) (r1 : List Int) (A2 : Option Addr) (c2 : Nat) (r2 : List Int) (inner border sh inn : Nat) (q1 q : List Int) (t1 t : List Int) (w : World) (hl : CL w A l) (hlc : l.length ≤ c) (hll : l.length ≤ 5864062014805) (h1 : CB w A1 r1) (hc1 : r1.length ≤ c1) (h2 : CB w A2 r2) (hc2 : r2.length ≤ c2) (HG_ : Glob w) (hs1 : 0 < s1) (hs12 : s1 < s2) (hs2 : s2 < 18446744073709551616) (hp : p + 1 = s1) (hnl : 0 < l.length) (hd : proof_decompInclProof.f (p : Int) (s2 : Int) = some ((inner : Int), (border : Int))) (hz : bits_TrailingZeros64.f (s1 : Int) = some (sh : Int)) (hsh : sh < 64) (hin : inn + sh = inner) (hin2 : inner ≤ 64) (hbo : border ≤ 64) (hpw : s1 = 2 ^ sh) (hn : l.length = 0 + inn + border) (e1 : chainR a0 a1 a2 a3 a4 a5 ((p : Int) / 2 ^ min sh 64) (l.take inn) r1 0 = some q1) (e2 : chainB a0 a1 a2 a3 a4 a5 (l.drop inn) q1 = some q) (e3 : sameB q r1 = true) (e4 : chainI a0 a1 a2 a3 a4 a5 ((p : Int) / 2 ^ min sh 64) (l.take inn) r1 0 = some t1) (e5 : chainB a0 a1 a2 a3 a4 a5 (l.drop inn) t1 = some t) (e6 : sameB t r2 = true) :
    Calls Tryd.prog 60 #[toyV a0 a1 a2 a3 a4 a5, .int .u64 (s1 : Nat), .int .u64 (s2 : Nat), .slice A l.length c, .slice A1 r1.length c1, .slice A2 r2.length c2] w fun e w' => e = .returned .nilIface ∧ Below w.heap.size w w' := by
  have hpo := pow_wrap sh hsh
  have t5w : ((s1 : Int) == IntKind.u64.wrap ((2 : Int) ^ min sh 64)) = true := beq_iff_eq.2 (by rw [Nat.min_eq_left (by omega), hpo, hpw])
  clear hpw hpo
  have t1_ : decide (s2 < s1) = false := decide_eq_false (by omega)
  have t1i : decide ((s2 : Int) < (s1 : Int)) = false := decide_eq_false (by omega)
  have t2_ : (s1 == s2) = false := beq_eq_false_iff_ne.2 (by omega)
  have t2i : ((s1 : Int) == (s2 : Int)) = false := beq_eq_false_iff_ne.2 (by omega)
  have t3_ : (s1 == 0) = false := beq_eq_false_iff_ne.2 (by omega)
  have t3i : ((s1 : Int) == 0) = false := beq_eq_false_iff_ne.2 (by omega)
  have t4_ : (l.length == 0) = false := beq_eq_false_iff_ne.2 (by omega)
  have t4i : ((l.length : Int) == 0) = false := beq_eq_false_iff_ne.2 (by omega)
  have b0 : s1 < 18446744073709551616 := by omega
  have b1 : inner < 9223372036854775808 := by omega
  have b2 : inn < 9223372036854775808 := by omega
  have b3 : inn + border < 9223372036854775808 := by omega
  have b4 : 1 + inn < 9223372036854775808 := by omega
  have b5 : 1 + inn + border < 9223372036854775808 := by omega
  have t6_ : ((l.length : Int) != ((inn + border : Nat) : Int)) = false := bne_eq_false_iff_eq.2 (by omega)
  have HL := Aside0.mk hl
  have H1 := Aside0.mk h1
  have H2 := Aside0.mk h2
  have HG := Aside0.mk HG_
  have HD := Aside0.mk hd
  have HZ := Aside0.mk hz
  have HB := Aside0.mk (Below.refl w.heap.size w)
  obtain ⟨ad, Ah, ch, ead, hx, hlh, hCh⟩ := at_L HL.out 0 hnl
  cases ead
  rw [Addr.add_zero'] at hx
  have HCh := Aside0.mk hCh
  have HLh := Aside0.mk hlh
  clear hCh hlh
  obtain ⟨iL, hiL, hsL⟩ := Option.map_eq_some_iff.1 infoL
  simp only [Prod.mk.injEq] at hsL
  have HK := HL
  have HKC : Aside0 (l.length ≤ c) := ⟨hlc⟩
  have HKN : Aside0 (l.length = inn + border) := ⟨by omega⟩
  have HSD := H1
  have HSC : Aside0 (r1.length ≤ c1) := ⟨hc1⟩
  have hcut1 : ∀ W : World, (Instr.slice 25 (.slice (some ad) l.length c) none (some (.int .i64 (inn : Int))) none).run Tryd.prog W = .ok (.slice (some ad) (l.take inn).length c) W := fun W => by
    have h := cut_to (P := Tryd.prog) 25 28 .i64 Tryd.underlying25 hiL (some ad) l.length c (inn : Int) (by omega) (by have := HKN.out; omega) HKC.out W
    rw [Int.toNat_natCast] at h
    rw [show (l.take inn).length = inn by rw [List.length_take]; have := HKN.out; omega]
    exact h
  have hcut2 : ∀ W : World, (Instr.slice 25 (.slice (some ad) l.length c) (some (.int .i64 (inn : Int))) none none).run Tryd.prog W = .ok (.slice (if c = inn then (some ad) else ((some ad) : Option Addr).map (·.add (inn * 1))) (l.drop inn).length (c - inn)) W := fun W => by
    have h := cut_from (P := Tryd.prog) 25 28 .i64 Tryd.underlying25 hiL 1 hsL.2.1 (some ad) l.length c (inn : Int) (by omega) (by have := HKN.out; omega) W
    rw [Int.toNat_natCast] at h
    rw [List.length_drop]
    exact h
  have HT := Aside0.mk (Kd.C_take (m := inn) HK.out (by have := HKN.out; omega))
  have HR : Aside0 (CL w (if c = inn then (some ad) else ((some ad) : Option Addr).map (·.add (inn * 1))) (l.drop inn)) := ⟨Kd.C_drop (m := inn) (c := c) HK.out (by have := HKN.out; omega) HKC.out⟩
  generalize (if c = inn then (some ad) else ((some ad) : Option Addr).map (·.add (inn * 1))) = Ax at hcut2 HR
  have HTL : Aside0 ((l.take inn).length ≤ 64) := ⟨by rw [List.length_take]; omega⟩
  have HTE : Aside0 ((l.take inn).length = inn) := ⟨by rw [List.length_take]; have := HKN.out; omega⟩
  have HDE : Aside0 ((l.drop inn).length = border) := ⟨by rw [List.length_drop]; have := HKN.out; omega⟩
  have HDL : Aside0 ((l.drop inn).length ≤ 64) := ⟨by rw [List.length_drop]; have := HKN.out; omega⟩
  have E1 := Aside0.mk e1
  have E2 := Aside0.mk e2
  have E3 := Aside0.mk e3
  have E4 := Aside0.mk e4
  have E5 := Aside0.mk e5
  have E6 := Aside0.mk e6
  clear e4 e5 e6
  have H1C := Aside0.mk hc1
  have H2C := Aside0.mk hc2
  generalize l.take inn = lt at hcut1 HT HTL HTE E1 E4
  generalize l.drop inn = ld at hcut2 HR HDL HDE E2 E5
  have hw1 := sub_w1 s1 p hp b0
  have hsw : ∀ z : Int, z = (sh : Int) → IntKind.u64.wrap z = (sh : Int) := fun z hz => by rw [hz]; show (sh : Int) % 18446744073709551616 = _; omega
  have hw2 : ∀ z : Int, z = (sh : Int) → wrap64 ((inner : Int) - z) = (inn : Int) := fun z hz => by rw [hz]; exact sub_w inner sh inn hin b1
  have hw3 : ∀ z : Int, z = (inn : Int) → wrap64 z = (inn : Int) := fun z hz => by rw [hz]; exact w64_in _ (by omega)
  have hw4 : ∀ z : Int, z = (border : Int) → wrap64 ((inn : Int) + z) = (l.length : Int) := fun z hz => by rw [hz, hn, Nat.zero_add]; exact add_w inn border b3
  clear b0 b1 b2 b3 b4 b5 e1 e2 e3 hn hs12 hs2 hp hll hlc hin hin2 hbo hs1 hc1 hc2 hl h1 h2 HG_ hd hz hiL hsL HK HKC HKN hsh
  go_enter Tryd.func60, Tryd.ntmps60
  go_wp2_with (first
    | (go_at_call 93; (with_reducible refine (proof_decompInclProof.calls _ _ _ _ _ HD.out).mono ?_); rintro e w2 ⟨rfl, hb⟩; have HG := Aside0.mk (Glob.below HG.out hb.below); have HB := Aside0.mk (below_then HB.out HB.out.size hb.below); have hx2 := pw_cell_below HB.out hx; clear hb)
    | (go_at_call 89; (with_reducible refine (bits_TrailingZeros64.calls _ _ _ HG.out HZ.out).mono ?_); rintro e w3 ⟨rfl, hb⟩; have HB := Aside0.mk (below_then HB.out HB.out.size hb.below); have hx3 := pw_cell_below HB.out hx; clear hb)
    | (go_at_call 94; (with_reducible refine (chainRight_n a0 a1 a2 a3 a4 a5 _ _ _ r1 _ _ lt _ (by first | rfl | (have := HTE.out; omega)) q1 _ (Kd.C_below HSD.out HB.out) HSC.out (Kd.C_below HT.out HB.out) (by have := HTL.out; omega) E1.out).mono ?_); rintro e w4 ⟨A3, c3, rfl, hl3, hC3, hb⟩; have HB := Aside0.mk (below_then HB.out HB.out.size hb); have HC3 := Aside0.mk hC3; have HL3 := Aside0.mk hl3; clear hC3 hb hl3)
    | (go_at_call 91; (with_reducible refine (chainBorder_n a0 a1 a2 a3 a4 a5 _ _ q1 _ _ ld _ (by first | rfl | (have := HDE.out; omega)) q _ HC3.out HL3.out (Kd.C_below HR.out HB.out) (by have := HDL.out; omega) E2.out).mono ?_); rintro e w5 ⟨A4, c4, rfl, hl4, hC4, hb⟩; have HB := Aside0.mk (below_then HB.out HB.out.size hb); have HC4 := Aside0.mk hC4; have HL4 := Aside0.mk hl4; clear hC4 hb hl4)
    | (go_at_call 92; (with_reducible refine (match_yes _ _ q _ _ r1 _ HC4.out HL4.out (Kd.C_below H1.out HB.out) H1C.out E3.out).mono ?_); rintro e w6 ⟨rfl, hb⟩; have HB := Aside0.mk (below_then HB.out HB.out.size hb); clear hb)
    | (go_at_call 95; (with_reducible refine (chainInner_n a0 a1 a2 a3 a4 a5 _ _ _ r1 _ _ lt _ (by first | rfl | (have := HTE.out; omega)) t1 _ (Kd.C_below HSD.out HB.out) HSC.out (Kd.C_below HT.out HB.out) (by have := HTL.out; omega) E4.out).mono ?_); rintro e w7 ⟨A5, c5, rfl, hl5, hC5, hb⟩; have HB := Aside0.mk (below_then HB.out HB.out.size hb); have HC5 := Aside0.mk hC5; have HL5 := Aside0.mk hl5; clear hC5 hb hl5)
    | (go_at_call 91; (with_reducible refine (chainBorder_n a0 a1 a2 a3 a4 a5 _ _ t1 _ _ ld _ (by first | rfl | (have := HDE.out; omega)) t _ HC5.out HL5.out (Kd.C_below HR.out HB.out) (by have := HDL.out; omega) E5.out).mono ?_); rintro e w8 ⟨A6, c6, rfl, hl6, hC6, hb⟩; have HB := Aside0.mk (below_then HB.out HB.out.size hb); have HC6 := Aside0.mk hC6; have HL6 := Aside0.mk hl6; clear hC6 hb hl6)
    | (go_at_call 92; (with_reducible refine (match_yes _ _ t _ _ r2 _ HC6.out HL6.out (Kd.C_below H2.out HB.out) H2C.out E6.out).mono ?_); rintro e w9 ⟨rfl, hb⟩; have HB := Aside0.mk (below_then HB.out HB.out.size hb); have HC6 := Aside0.mk (Kd.C_below HC6.out hb); clear hb))
  go_ret
  exact ⟨rfl, HB.out⟩

end Go.Proofs.YtfhcpniibiobgaaDoor.Qf
namespace Go.Proofs.YtfhcpniibiobgaaDoor.Qf
open Go.RowKit Go.Proofs.YtfhcpniibiobgaaDoorW.PrintWords Go.Proofs.YtfhcpniibiobgaaDoorW.PrintLast Go.Proofs.YtfhcpniibiobgaaDoorW.PrintMore
open Hs (CB CL at_L at_B infoB infoL R_of_blk)

set_option maxHeartbeats 2000000 in
set_option maxRecDepth 100000 in
theorem vc_odd_no1 (a0 a1 a2 a3 a4 a5 : Int) (s1 s2 p : Nat) (A : Option Addr) (c : Nat) (l : List (List Int)) (A1 : Option Addr) (c1 : Nat) (r1 : List Int) (A2 : Option Addr) (c2 : Nat) (r2 : List Int) (inner border sh inn : Nat) (q1 q : List Int) (w : World) (hl : CL w A l) (hlc : l.length ≤ c) (hll : l.length ≤ 5864062014805) (h1 : CB w A1 r1) (hc1 : r1.length ≤ c1) (h2 : CB w A2 r2) (hc2 : r2.length ≤ c2) (HG_ : Glob w) (hs1 : 0 < s1) (hs12 : s1 < s2) (hs2 : s2 < 18446744073709551616) (hp : p + 1 = s1) (hnl : 0 < l.length) (hd : proof_decompInclProof.f (p : Int) (s2 : Int) = some ((inner : Int), (border : Int))) (hz : bits_TrailingZeros64.f (s1 : Int) = some (sh : Int)) (hsh : sh < 64) (hin : inn + sh = inner) (hin2 : inner ≤ 64) (hbo : border ≤ 64) (hpw : s1 ≠ 2 ^ sh) (hn : l.length = 1 + inn + border) (e1 : chainR a0 a1 a2 a3 a4 a5 ((p : Int) / 2 ^ min sh 64) ((l.drop 1).take inn) (l.getD 0 []) 0 = some q1) (e2 : chainB a0 a1 a2 a3 a4 a5 ((l.drop 1).drop inn) q1 = some q) (e3 : sameB q r1 = false) :
    Calls Tryd.prog 60 #[toyV a0 a1 a2 a3 a4 a5, .int .u64 (s1 : Nat), .int .u64 (s2 : Nat), .slice A l.length c, .slice A1 r1.length c1, .slice A2 r2.length c2] w fun e w' => ∃ A' c', e = .returned (.iface 156 (.agg #[.slice A1 r1.length c1, .slice A' q.length c'])) ∧ q.length ≤ c' ∧ CB w' A' q ∧ Below w.heap.size w w' := by
  have hpo := pow_wrap sh hsh
  have t5w : ((s1 : Int) == IntKind.u64.wrap ((2 : Int) ^ min sh 64)) = false := beq_eq_false_iff_ne.2 (by rw [Nat.min_eq_left (by omega), hpo]; exact fun h => hpw (Int.ofNat_inj.1 h))
  clear hpw hpo
  have t1_ : decide (s2 < s1) = false := decide_eq_false (by omega)
  have t1i : decide ((s2 : Int) < (s1 : Int)) = false := decide_eq_false (by omega)
  have t2_ : (s1 == s2) = false := beq_eq_false_iff_ne.2 (by omega)
  have t2i : ((s1 : Int) == (s2 : Int)) = false := beq_eq_false_iff_ne.2 (by omega)
  have t3_ : (s1 == 0) = false := beq_eq_false_iff_ne.2 (by omega)
  have t3i : ((s1 : Int) == 0) = false := beq_eq_false_iff_ne.2 (by omega)
  have t4_ : (l.length == 0) = false := beq_eq_false_iff_ne.2 (by omega)
  have t4i : ((l.length : Int) == 0) = false := beq_eq_false_iff_ne.2 (by omega)
  have b0 : s1 < 18446744073709551616 := by omega
  have b1 : inner < 9223372036854775808 := by omega
  have b2 : inn < 9223372036854775808 := by omega
  have b3 : inn + border < 9223372036854775808 := by omega
  have b4 : 1 + inn < 9223372036854775808 := by omega
  have b5 : 1 + inn + border < 9223372036854775808 := by omega
  have t6_ : ((l.length : Int) != ((1 + inn + border : Nat) : Int)) = false := bne_eq_false_iff_eq.2 (by omega)
  have HL := Aside0.mk hl
  have H1 := Aside0.mk h1
  have H2 := Aside0.mk h2
  have HG := Aside0.mk HG_
  have HD := Aside0.mk hd
  have HZ := Aside0.mk hz
  have HB := Aside0.mk (Below.refl w.heap.size w)
  obtain ⟨ad, Ah, ch, ead, hx, hlh, hCh⟩ := at_L HL.out 0 hnl
  cases ead
  rw [Addr.add_zero'] at hx
  have HCh := Aside0.mk hCh
  have HLh := Aside0.mk hlh
  clear hCh hlh
  obtain ⟨iL, hiL, hsL⟩ := Option.map_eq_some_iff.1 infoL
  simp only [Prod.mk.injEq] at hsL
  have hcut0 : ∀ W : World, (Instr.slice 25 (.slice (some ad) l.length c) (some (.int .i64 1)) none none).run Tryd.prog W = .ok (.slice (if c = 1 then some ad else (some ad : Option Addr).map (·.add (1 * 1))) (l.drop 1).length (c - 1)) W := fun W => by
    have h := cut_from (P := Tryd.prog) 25 28 .i64 Tryd.underlying25 hiL 1 hsL.2.1 (some ad) l.length c 1 (by omega) (by omega) W
    rw [show ((1 : Int)).toNat = 1 from rfl] at h
    rw [List.length_drop]
    exact h
  have HK : Aside0 (CL w (if c = 1 then some ad else (some ad : Option Addr).map (·.add (1 * 1))) (l.drop 1)) := ⟨Kd.C_drop (m := 1) (c := c) HL.out (by omega) hlc⟩
  generalize (if c = 1 then some ad else (some ad : Option Addr).map (·.add (1 * 1))) = Ab at hcut0 HK
  have HKC : Aside0 ((l.drop 1).length ≤ c - 1) := ⟨by rw [List.length_drop]; omega⟩
  have HKN : Aside0 ((l.drop 1).length = inn + border) := ⟨by rw [List.length_drop]; omega⟩
  generalize l.drop 1 = lk at hcut0 HK HKC HKN e1 e2
  generalize c - 1 = cb at hcut0 HKC
  generalize l.getD 0 [] = sd at hx HCh HLh e1
  have HSD := HCh
  have HSC := HLh
  have hcut1 : ∀ W : World, (Instr.slice 25 (.slice Ab lk.length cb) none (some (.int .i64 (inn : Int))) none).run Tryd.prog W = .ok (.slice Ab (lk.take inn).length cb) W := fun W => by
    have h := cut_to (P := Tryd.prog) 25 28 .i64 Tryd.underlying25 hiL Ab lk.length cb (inn : Int) (by omega) (by have := HKN.out; omega) HKC.out W
    rw [Int.toNat_natCast] at h
    rw [show (lk.take inn).length = inn by rw [List.length_take]; have := HKN.out; omega]
    exact h
  have hcut2 : ∀ W : World, (Instr.slice 25 (.slice Ab lk.length cb) (some (.int .i64 (inn : Int))) none none).run Tryd.prog W = .ok (.slice (if cb = inn then Ab else (Ab : Option Addr).map (·.add (inn * 1))) (lk.drop inn).length (cb - inn)) W := fun W => by
    have h := cut_from (P := Tryd.prog) 25 28 .i64 Tryd.underlying25 hiL 1 hsL.2.1 Ab lk.length cb (inn : Int) (by omega) (by have := HKN.out; omega) W
    rw [Int.toNat_natCast] at h
    rw [List.length_drop]
    exact h
  have HT := Aside0.mk (Kd.C_take (m := inn) HK.out (by have := HKN.out; omega))
  have HR : Aside0 (CL w (if cb = inn then Ab else (Ab : Option Addr).map (·.add (inn * 1))) (lk.drop inn)) := ⟨Kd.C_drop (m := inn) (c := cb) HK.out (by have := HKN.out; omega) HKC.out⟩
  generalize (if cb = inn then Ab else (Ab : Option Addr).map (·.add (inn * 1))) = Ax at hcut2 HR
  have HTL : Aside0 ((lk.take inn).length ≤ 64) := ⟨by rw [List.length_take]; omega⟩
  have HTE : Aside0 ((lk.take inn).length = inn) := ⟨by rw [List.length_take]; have := HKN.out; omega⟩
  have HDE : Aside0 ((lk.drop inn).length = border) := ⟨by rw [List.length_drop]; have := HKN.out; omega⟩
  have HDL : Aside0 ((lk.drop inn).length ≤ 64) := ⟨by rw [List.length_drop]; have := HKN.out; omega⟩
  have E1 := Aside0.mk e1
  have E2 := Aside0.mk e2
  have E3 := Aside0.mk e3
  have H1C := Aside0.mk hc1
  have H2C := Aside0.mk hc2
  generalize lk.take inn = lt at hcut1 HT HTL HTE E1
  generalize lk.drop inn = ld at hcut2 HR HDL HDE E2
  have hw1 := sub_w1 s1 p hp b0
  have hsw : ∀ z : Int, z = (sh : Int) → IntKind.u64.wrap z = (sh : Int) := fun z hz => by rw [hz]; show (sh : Int) % 18446744073709551616 = _; omega
  have hw2 : ∀ z : Int, z = (sh : Int) → wrap64 ((inner : Int) - z) = (inn : Int) := fun z hz => by rw [hz]; exact sub_w inner sh inn hin b1
  have hw3 : ∀ z : Int, z = (inn : Int) → wrap64 (1 + z) = 1 + (inn : Int) := fun z hz => by rw [hz]; exact (add_w 1 inn b4).trans (by omega)
  have hw4 : ∀ z : Int, z = (border : Int) → wrap64 (1 + (inn : Int) + z) = (l.length : Int) := fun z hz => by rw [hz, hn, show (1 : Int) + (inn : Int) = ((1 + inn : Nat) : Int) by omega]; exact add_w (1 + inn) border b5
  clear b0 b1 b2 b3 b4 b5 e1 e2 e3 hn hs12 hs2 hp hll hlc hin hin2 hbo hs1 hc1 hc2 hl h1 h2 HG_ hd hz hiL hsL HK HKC HKN hsh
  go_enter Tryd.func60, Tryd.ntmps60
  go_wp2_with (first
    | (go_at_call 93; (with_reducible refine (proof_decompInclProof.calls _ _ _ _ _ HD.out).mono ?_); rintro e w2 ⟨rfl, hb⟩; have HG := Aside0.mk (Glob.below HG.out hb.below); have HB := Aside0.mk (below_then HB.out HB.out.size hb.below); have hx2 := pw_cell_below HB.out hx; clear hb)
    | (go_at_call 89; (with_reducible refine (bits_TrailingZeros64.calls _ _ _ HG.out HZ.out).mono ?_); rintro e w3 ⟨rfl, hb⟩; have HB := Aside0.mk (below_then HB.out HB.out.size hb.below); have hx3 := pw_cell_below HB.out hx; clear hb)
    | (go_at_call 94; (with_reducible refine (chainRight_n a0 a1 a2 a3 a4 a5 _ _ _ sd _ _ lt _ (by first | rfl | (have := HTE.out; omega)) q1 _ (Kd.C_below HSD.out HB.out) HSC.out (Kd.C_below HT.out HB.out) (by have := HTL.out; omega) E1.out).mono ?_); rintro e w4 ⟨A3, c3, rfl, hl3, hC3, hb⟩; have HB := Aside0.mk (below_then HB.out HB.out.size hb); have HC3 := Aside0.mk hC3; have HL3 := Aside0.mk hl3; clear hC3 hb hl3)
    | (go_at_call 91; (with_reducible refine (chainBorder_n a0 a1 a2 a3 a4 a5 _ _ q1 _ _ ld _ (by first | rfl | (have := HDE.out; omega)) q _ HC3.out HL3.out (Kd.C_below HR.out HB.out) (by have := HDL.out; omega) E2.out).mono ?_); rintro e w5 ⟨A4, c4, rfl, hl4, hC4, hb⟩; have HB := Aside0.mk (below_then HB.out HB.out.size hb); have HC4 := Aside0.mk hC4; have HL4 := Aside0.mk hl4; clear hC4 hb hl4)
    | (go_at_call 92; (with_reducible refine (match_no _ _ q _ _ r1 _ HC4.out HL4.out (Kd.C_below H1.out HB.out) H1C.out E3.out).mono ?_); rintro e w6 ⟨rfl, hb⟩; have HB := Aside0.mk (below_then HB.out HB.out.size hb); have HC4 := Aside0.mk (Kd.C_below HC4.out hb); clear hb))
  go_ret
  exact ⟨_, _, rfl, HL4.out, HC4.out, HB.out⟩

set_option maxHeartbeats 2000000 in
set_option maxRecDepth 100000 in
theorem vc_odd_no2 (a0 a1 a2 a3 a4 a5 : Int) (s1 s2 p : Nat) (A : Option Addr) (c : Nat) (l : List (List Int)) (A1 : Option Addr) (c1 : Nat) (r1 : List Int) (A2 : Option Addr) (c2 : Nat) (r2 : List Int) (inner border sh inn : Nat) (q1 q : List Int) (t1 t : List Int) (w : World) (hl : CL w A l) (hlc : l.length ≤ c) (hll : l.length ≤ 5864062014805) (h1 : CB w A1 r1) (hc1 : r1.length ≤ c1) (h2 : CB w A2 r2) (hc2 : r2.length ≤ c2) (HG_ : Glob w) (hs1 : 0 < s1) (hs12 : s1 < s2) (hs2 : s2 < 18446744073709551616) (hp : p + 1 = s1) (hnl : 0 < l.length) (hd : proof_decompInclProof.f (p : Int) (s2 : Int) = some ((inner : Int), (border : Int))) (hz : bits_TrailingZeros64.f (s1 : Int) = some (sh : Int)) (hsh : sh < 64) (hin : inn + sh = inner) (hin2 : inner ≤ 64) (hbo : border ≤ 64) (hpw : s1 ≠ 2 ^ sh) (hn : l.length = 1 + inn + border) (e1 : chainR a0 a1 a2 a3 a4 a5 ((p : Int) / 2 ^ min sh 64) ((l.drop 1).take inn) (l.getD 0 []) 0 = some q1) (e2 : chainB a0 a1 a2 a3 a4 a5 ((l.drop 1).drop inn) q1 = some q) (e3 : sameB q r1 = true) (e4 : chainI a0 a1 a2 a3 a4 a5 ((p : Int) / 2 ^ min sh 64) ((l.drop 1).take inn) (l.getD 0 []) 0 = some t1) (e5 : chainB a0 a1 a2 a3 a4 a5 ((l.drop 1).drop inn) t1 = some t) (e6 : sameB t r2 = false) :
    Calls Tryd.prog 60 #[toyV a0 a1 a2 a3 a4 a5, .int .u64 (s1 : Nat), .int .u64 (s2 : Nat), .slice A l.length c, .slice A1 r1.length c1, .slice A2 r2.length c2] w fun e w' => ∃ A' c', e = .returned (.iface 156 (.agg #[.slice A2 r2.length c2, .slice A' t.length c'])) ∧ t.length ≤ c' ∧ CB w' A' t ∧ Below w.heap.size w w' := by
  have hpo := pow_wrap sh hsh
  have t5w : ((s1 : Int) == IntKind.u64.wrap ((2 : Int) ^ min sh 64)) = false := beq_eq_false_iff_ne.2 (by rw [Nat.min_eq_left (by omega), hpo]; exact fun h => hpw (Int.ofNat_inj.1 h))
  clear hpw hpo
  have t1_ : decide (s2 < s1) = false := decide_eq_false (by omega)
  have t1i : decide ((s2 : Int) < (s1 : Int)) = false := decide_eq_false (by omega)
  have t2_ : (s1 == s2) = false := beq_eq_false_iff_ne.2 (by omega)
  have t2i : ((s1 : Int) == (s2 : Int)) = false := beq_eq_false_iff_ne.2 (by omega)
  have t3_ : (s1 == 0) = false := beq_eq_false_iff_ne.2 (by omega)
  have t3i : ((s1 : Int) == 0) = false := beq_eq_false_iff_ne.2 (by omega)
  have t4_ : (l.length == 0) = false := beq_eq_false_iff_ne.2 (by omega)
  have t4i : ((l.length : Int) == 0) = false := beq_eq_false_iff_ne.2 (by omega)
  have b0 : s1 < 18446744073709551616 := by omega
  have b1 : inner < 9223372036854775808 := by omega
  have b2 : inn < 9223372036854775808 := by omega
  have b3 : inn + border < 9223372036854775808 := by omega
  have b4 : 1 + inn < 9223372036854775808 := by omega
  have b5 : 1 + inn + border < 9223372036854775808 := by omega
  have t6_ : ((l.length : Int) != ((1 + inn + border : Nat) : Int)) = false := bne_eq_false_iff_eq.2 (by omega)
  have HL := Aside0.mk hl
  have H1 := Aside0.mk h1
  have H2 := Aside0.mk h2
  have HG := Aside0.mk HG_
  have HD := Aside0.mk hd
  have HZ := Aside0.mk hz
  have HB := Aside0.mk (Below.refl w.heap.size w)
  obtain ⟨ad, Ah, ch, ead, hx, hlh, hCh⟩ := at_L HL.out 0 hnl
  cases ead
  rw [Addr.add_zero'] at hx
  have HCh := Aside0.mk hCh
  have HLh := Aside0.mk hlh
  clear hCh hlh
  obtain ⟨iL, hiL, hsL⟩ := Option.map_eq_some_iff.1 infoL
  simp only [Prod.mk.injEq] at hsL
  have hcut0 : ∀ W : World, (Instr.slice 25 (.slice (some ad) l.length c) (some (.int .i64 1)) none none).run Tryd.prog W = .ok (.slice (if c = 1 then some ad else (some ad : Option Addr).map (·.add (1 * 1))) (l.drop 1).length (c - 1)) W := fun W => by
    have h := cut_from (P := Tryd.prog) 25 28 .i64 Tryd.underlying25 hiL 1 hsL.2.1 (some ad) l.length c 1 (by omega) (by omega) W
    rw [show ((1 : Int)).toNat = 1 from rfl] at h
    rw [List.length_drop]
    exact h
  have HK : Aside0 (CL w (if c = 1 then some ad else (some ad : Option Addr).map (·.add (1 * 1))) (l.drop 1)) := ⟨Kd.C_drop (m := 1) (c := c) HL.out (by omega) hlc⟩
  generalize (if c = 1 then some ad else (some ad : Option Addr).map (·.add (1 * 1))) = Ab at hcut0 HK
  have HKC : Aside0 ((l.drop 1).length ≤ c - 1) := ⟨by rw [List.length_drop]; omega⟩
  have HKN : Aside0 ((l.drop 1).length = inn + border) := ⟨by rw [List.length_drop]; omega⟩
  generalize l.drop 1 = lk at hcut0 HK HKC HKN e1 e2 e4 e5
  generalize c - 1 = cb at hcut0 HKC
  generalize l.getD 0 [] = sd at hx HCh HLh e1 e4
  have HSD := HCh
  have HSC := HLh
  have hcut1 : ∀ W : World, (Instr.slice 25 (.slice Ab lk.length cb) none (some (.int .i64 (inn : Int))) none).run Tryd.prog W = .ok (.slice Ab (lk.take inn).length cb) W := fun W => by
    have h := cut_to (P := Tryd.prog) 25 28 .i64 Tryd.underlying25 hiL Ab lk.length cb (inn : Int) (by omega) (by have := HKN.out; omega) HKC.out W
    rw [Int.toNat_natCast] at h
    rw [show (lk.take inn).length = inn by rw [List.length_take]; have := HKN.out; omega]
    exact h
  have hcut2 : ∀ W : World, (Instr.slice 25 (.slice Ab lk.length cb) (some (.int .i64 (inn : Int))) none none).run Tryd.prog W = .ok (.slice (if cb = inn then Ab else (Ab : Option Addr).map (·.add (inn * 1))) (lk.drop inn).length (cb - inn)) W := fun W => by
    have h := cut_from (P := Tryd.prog) 25 28 .i64 Tryd.underlying25 hiL 1 hsL.2.1 Ab lk.length cb (inn : Int) (by omega) (by have := HKN.out; omega) W
    rw [Int.toNat_natCast] at h
    rw [List.length_drop]
    exact h
  have HT := Aside0.mk (Kd.C_take (m := inn) HK.out (by have := HKN.out; omega))
  have HR : Aside0 (CL w (if cb = inn then Ab else (Ab : Option Addr).map (·.add (inn * 1))) (lk.drop inn)) := ⟨Kd.C_drop (m := inn) (c := cb) HK.out (by have := HKN.out; omega) HKC.out⟩
  generalize (if cb = inn then Ab else (Ab : Option Addr).map (·.add (inn * 1))) = Ax at hcut2 HR
  have HTL : Aside0 ((lk.take inn).length ≤ 64) := ⟨by rw [List.length_take]; omega⟩
  have HTE : Aside0 ((lk.take inn).length = inn) := ⟨by rw [List.length_take]; have := HKN.out; omega⟩
  have HDE : Aside0 ((lk.drop inn).length = border) := ⟨by rw [List.length_drop]; have := HKN.out; omega⟩
  have HDL : Aside0 ((lk.drop inn).length ≤ 64) := ⟨by rw [List.length_drop]; have := HKN.out; omega⟩
  have E1 := Aside0.mk e1
  have E2 := Aside0.mk e2
  have E3 := Aside0.mk e3
  have E4 := Aside0.mk e4
  have E5 := Aside0.mk e5
  have E6 := Aside0.mk e6
  clear e4 e5 e6
  have H1C := Aside0.mk hc1
  have H2C := Aside0.mk hc2
  generalize lk.take inn = lt at hcut1 HT HTL HTE E1 E4
  generalize lk.drop inn = ld at hcut2 HR HDL HDE E2 E5
  have hw1 := sub_w1 s1 p hp b0
  have hsw : ∀ z : Int, z = (sh : Int) → IntKind.u64.wrap z = (sh : Int) := fun z hz => by rw [hz]; show (sh : Int) % 18446744073709551616 = _; omega
  have hw2 : ∀ z : Int, z = (sh : Int) → wrap64 ((inner : Int) - z) = (inn : Int) := fun z hz => by rw [hz]; exact sub_w inner sh inn hin b1
  have hw3 : ∀ z : Int, z = (inn : Int) → wrap64 (1 + z) = 1 + (inn : Int) := fun z hz => by rw [hz]; exact (add_w 1 inn b4).trans (by omega)
  have hw4 : ∀ z : Int, z = (border : Int) → wrap64 (1 + (inn : Int) + z) = (l.length : Int) := fun z hz => by rw [hz, hn, show (1 : Int) + (inn : Int) = ((1 + inn : Nat) : Int) by omega]; exact add_w (1 + inn) border b5
  clear b0 b1 b2 b3 b4 b5 e1 e2 e3 hn hs12 hs2 hp hll hlc hin hin2 hbo hs1 hc1 hc2 hl h1 h2 HG_ hd hz hiL hsL HK HKC HKN hsh
  go_enter Tryd.func60, Tryd.ntmps60
  go_wp2_with (first
    | (go_at_call 93; (with_reducible refine (proof_decompInclProof.calls _ _ _ _ _ HD.out).mono ?_); rintro e w2 ⟨rfl, hb⟩; have HG := Aside0.mk (Glob.below HG.out hb.below); have HB := Aside0.mk (below_then HB.out HB.out.size hb.below); have hx2 := pw_cell_below HB.out hx; clear hb)
    | (go_at_call 89; (with_reducible refine (bits_TrailingZeros64.calls _ _ _ HG.out HZ.out).mono ?_); rintro e w3 ⟨rfl, hb⟩; have HB := Aside0.mk (below_then HB.out HB.out.size hb.below); have hx3 := pw_cell_below HB.out hx; clear hb)
    | (go_at_call 94; (with_reducible refine (chainRight_n a0 a1 a2 a3 a4 a5 _ _ _ sd _ _ lt _ (by first | rfl | (have := HTE.out; omega)) q1 _ (Kd.C_below HSD.out HB.out) HSC.out (Kd.C_below HT.out HB.out) (by have := HTL.out; omega) E1.out).mono ?_); rintro e w4 ⟨A3, c3, rfl, hl3, hC3, hb⟩; have HB := Aside0.mk (below_then HB.out HB.out.size hb); have HC3 := Aside0.mk hC3; have HL3 := Aside0.mk hl3; clear hC3 hb hl3)
    | (go_at_call 91; (with_reducible refine (chainBorder_n a0 a1 a2 a3 a4 a5 _ _ q1 _ _ ld _ (by first | rfl | (have := HDE.out; omega)) q _ HC3.out HL3.out (Kd.C_below HR.out HB.out) (by have := HDL.out; omega) E2.out).mono ?_); rintro e w5 ⟨A4, c4, rfl, hl4, hC4, hb⟩; have HB := Aside0.mk (below_then HB.out HB.out.size hb); have HC4 := Aside0.mk hC4; have HL4 := Aside0.mk hl4; clear hC4 hb hl4)
    | (go_at_call 92; (with_reducible refine (match_yes _ _ q _ _ r1 _ HC4.out HL4.out (Kd.C_below H1.out HB.out) H1C.out E3.out).mono ?_); rintro e w6 ⟨rfl, hb⟩; have HB := Aside0.mk (below_then HB.out HB.out.size hb); clear hb)
    | (go_at_call 95; (with_reducible refine (chainInner_n a0 a1 a2 a3 a4 a5 _ _ _ sd _ _ lt _ (by first | rfl | (have := HTE.out; omega)) t1 _ (Kd.C_below HSD.out HB.out) HSC.out (Kd.C_below HT.out HB.out) (by have := HTL.out; omega) E4.out).mono ?_); rintro e w7 ⟨A5, c5, rfl, hl5, hC5, hb⟩; have HB := Aside0.mk (below_then HB.out HB.out.size hb); have HC5 := Aside0.mk hC5; have HL5 := Aside0.mk hl5; clear hC5 hb hl5)
    | (go_at_call 91; (with_reducible refine (chainBorder_n a0 a1 a2 a3 a4 a5 _ _ t1 _ _ ld _ (by first | rfl | (have := HDE.out; omega)) t _ HC5.out HL5.out (Kd.C_below HR.out HB.out) (by have := HDL.out; omega) E5.out).mono ?_); rintro e w8 ⟨A6, c6, rfl, hl6, hC6, hb⟩; have HB := Aside0.mk (below_then HB.out HB.out.size hb); have HC6 := Aside0.mk hC6; have HL6 := Aside0.mk hl6; clear hC6 hb hl6)
    | (go_at_call 92; (with_reducible refine (match_no _ _ t _ _ r2 _ HC6.out HL6.out (Kd.C_below H2.out HB.out) H2C.out E6.out).mono ?_); rintro e w9 ⟨rfl, hb⟩; have HB := Aside0.mk (below_then HB.out HB.out.size hb); have HC6 := Aside0.mk (Kd.C_below HC6.out hb); clear hb))
  go_ret
  exact ⟨_, _, rfl, HL6.out, HC6.out, HB.out⟩

set_option maxHeartbeats 2000000 in
set_option maxRecDepth 100000 in
theorem vc_odd_yes (a0 a1 a2 a3 a4 a5 : Int) (s1 s2 p : Nat) (A : Option Addr) (c : Nat) (l : List (List Int)) (A1 : Option Addr) (c1 : Nat) (r1 : List Int) (A2 : Option Addr) (c2 : Nat) (r2 : List Int) (inner border sh inn : Nat) (q1 q : List Int) (t1 t : List Int) (w : World) (hl : CL w A l) (hlc : l.length ≤ c) (hll : l.length ≤ 5864062014805) (h1 : CB w A1 r1) (hc1 : r1.length ≤ c1) (h2 : CB w A2 r2) (hc2 : r2.length ≤ c2) (HG_ : Glob w) (hs1 : 0 < s1) (hs12 : s1 < s2) (hs2 : s2 < 18446744073709551616) (hp : p + 1 = s1) (hnl : 0 < l.length) (hd : proof_decompInclProof.f (p : Int) (s2 : Int) = some ((inner : Int), (border : Int))) (hz : bits_TrailingZeros64.f (s1 : Int) = some (sh : Int)) (hsh : sh < 64) (hin : inn + sh = inner) (hin2 : inner ≤ 64) (hbo : border ≤ 64) (hpw : s1 ≠ 2 ^ sh) (hn : l.length = 1 + inn + border) (e1 : chainR a0 a1 a2 a3 a4 a5 ((p : Int) / 2 ^ min sh 64) ((l.drop 1).take inn) (l.getD 0 []) 0 = some q1) (e2 : chainB a0 a1 a2 a3 a4 a5 ((l.drop 1).drop inn) q1 = some q) (e3 : sameB q r1 = true) (e4 : chainI a0 a1 a2 a3 a4 a5 ((p : Int) / 2 ^ min sh 64) ((l.drop 1).take inn) (l.getD 0 []) 0 = some t1) (e5 : chainB a0 a1 a2 a3 a4 a5 ((l.drop 1).drop inn) t1 = some t) (e6 : sameB t r2 = true) :
    Calls Tryd.prog 60 #[toyV a0 a1 a2 a3 a4 a5, .int .u64 (s1 : Nat), .int .u64 (s2 : Nat), .slice A l.length c, .slice A1 r1.length c1, .slice A2 r2.length c2] w fun e w' => e = .returned .nilIface ∧ Below w.heap.size w w' := by
  have hpo := pow_wrap sh hsh
  have t5w : ((s1 : Int) == IntKind.u64.wrap ((2 : Int) ^ min sh 64)) = false := beq_eq_false_iff_ne.2 (by rw [Nat.min_eq_left (by omega), hpo]; exact fun h => hpw (Int.ofNat_inj.1 h))
  clear hpw hpo
  have t1_ : decide (s2 < s1) = false := decide_eq_false (by omega)
  have t1i : decide ((s2 : Int) < (s1 : Int)) = false := decide_eq_false (by omega)
  have t2_ : (s1 == s2) = false := beq_eq_false_iff_ne.2 (by omega)
  have t2i : ((s1 : Int) == (s2 : Int)) = false := beq_eq_false_iff_ne.2 (by omega)
  have t3_ : (s1 == 0) = false := beq_eq_false_iff_ne.2 (by omega)
  have t3i : ((s1 : Int) == 0) = false := beq_eq_false_iff_ne.2 (by omega)
  have t4_ : (l.length == 0) = false := beq_eq_false_iff_ne.2 (by omega)
  have t4i : ((l.length : Int) == 0) = false := beq_eq_false_iff_ne.2 (by omega)
  have b0 : s1 < 18446744073709551616 := by omega
  have b1 : inner < 9223372036854775808 := by omega
  have b2 : inn < 9223372036854775808 := by omega
  have b3 : inn + border < 9223372036854775808 := by omega
  have b4 : 1 + inn < 9223372036854775808 := by omega
  have b5 : 1 + inn + border < 9223372036854775808 := by omega
  have t6_ : ((l.length : Int) != ((1 + inn + border : Nat) : Int)) = false := bne_eq_false_iff_eq.2 (by omega)
  have HL := Aside0.mk hl
  have H1 := Aside0.mk h1
  have H2 := Aside0.mk h2
  have HG := Aside0.mk HG_
  have HD := Aside0.mk hd
  have HZ := Aside0.mk hz
  have HB := Aside0.mk (Below.refl w.heap.size w)
  obtain ⟨ad, Ah, ch, ead, hx, hlh, hCh⟩ := at_L HL.out 0 hnl
  cases ead
  rw [Addr.add_zero'] at hx
  have HCh := Aside0.mk hCh
  have HLh := Aside0.mk hlh
  clear hCh hlh
  obtain ⟨iL, hiL, hsL⟩ := Option.map_eq_some_iff.1 infoL
  simp only [Prod.mk.injEq] at hsL
  have hcut0 : ∀ W : World, (Instr.slice 25 (.slice (some ad) l.length c) (some (.int .i64 1)) none none).run Tryd.prog W = .ok (.slice (if c = 1 then some ad else (some ad : Option Addr).map (·.add (1 * 1))) (l.drop 1).length (c - 1)) W := fun W => by
    have h := cut_from (P := Tryd.prog) 25 28 .i64 Tryd.underlying25 hiL 1 hsL.2.1 (some ad) l.length c 1 (by omega) (by omega) W
    rw [show ((1 : Int)).toNat = 1 from rfl] at h
    rw [List.length_drop]
    exact h
  have HK : Aside0 (CL w (if c = 1 then some ad else (some ad : Option Addr).map (·.add (1 * 1))) (l.drop 1)) := ⟨Kd.C_drop (m := 1) (c := c) HL.out (by omega) hlc⟩
  generalize (if c = 1 then some ad else (some ad : Option Addr).map (·.add (1 * 1))) = Ab at hcut0 HK
  have HKC : Aside0 ((l.drop 1).length ≤ c - 1) := ⟨by rw [List.length_drop]; omega⟩
  have HKN : Aside0 ((l.drop 1).length = inn + border) := ⟨by rw [List.length_drop]; omega⟩
  generalize l.drop 1 = lk at hcut0 HK HKC HKN e1 e2 e4 e5
  generalize c - 1 = cb at hcut0 HKC
  generalize l.getD 0 [] = sd at hx HCh HLh e1 e4
  have HSD := HCh
  have HSC := HLh
  have hcut1 : ∀ W : World, (Instr.slice 25 (.slice Ab lk.length cb) none (some (.int .i64 (inn : Int))) none).run Tryd.prog W = .ok (.slice Ab (lk.take inn).length cb) W := fun W => by
    have h := cut_to (P := Tryd.prog) 25 28 .i64 Tryd.underlying25 hiL Ab lk.length cb (inn : Int) (by omega) (by have := HKN.out; omega) HKC.out W
    rw [Int.toNat_natCast] at h
    rw [show (lk.take inn).length = inn by rw [List.length_take]; have := HKN.out; omega]
    exact h
  have hcut2 : ∀ W : World, (Instr.slice 25 (.slice Ab lk.length cb) (some (.int .i64 (inn : Int))) none none).run Tryd.prog W = .ok (.slice (if cb = inn then Ab else (Ab : Option Addr).map (·.add (inn * 1))) (lk.drop inn).length (cb - inn)) W := fun W => by
    have h := cut_from (P := Tryd.prog) 25 28 .i64 Tryd.underlying25 hiL 1 hsL.2.1 Ab lk.length cb (inn : Int) (by omega) (by have := HKN.out; omega) W
    rw [Int.toNat_natCast] at h
    rw [List.length_drop]
    exact h
  have HT := Aside0.mk (Kd.C_take (m := inn) HK.out (by have := HKN.out; omega))
  have HR : Aside0 (CL w (if cb = inn then Ab else (Ab : Option Addr).map (·.add (inn * 1))) (lk.drop inn)) := ⟨Kd.C_drop (m := inn) (c := cb) HK.out (by have := HKN.out; omega) HKC.out⟩
  generalize (if cb = inn then Ab else (Ab : Option Addr).map (·.add (inn * 1))) = Ax at hcut2 HR
  have HTL : Aside0 ((lk.take inn).length ≤ 64) := ⟨by rw [List.length_take]; omega⟩
  have HTE : Aside0 ((lk.take inn).length = inn) := ⟨by rw [List.length_take]; have := HKN.out; omega⟩
  have HDE : Aside0 ((lk.drop inn).length = border) := ⟨by rw [List.length_drop]; have := HKN.out; omega⟩
  have HDL : Aside0 ((lk.drop inn).length ≤ 64) := ⟨by rw [List.length_drop]; have := HKN.out; omega⟩
  have E1 := Aside0.mk e1
  have E2 := Aside0.mk e2
  have E3 := Aside0.mk e3
  have E4 := Aside0.mk e4
  have E5 := Aside0.mk e5
  have E6 := Aside0.mk e6
  clear e4 e5 e6
  have H1C := Aside0.mk hc1
  have H2C := Aside0.mk hc2
  generalize lk.take inn = lt at hcut1 HT HTL HTE E1 E4
  generalize lk.drop inn = ld at hcut2 HR HDL HDE E2 E5
  have hw1 := sub_w1 s1 p hp b0
  have hsw : ∀ z : Int, z = (sh : Int) → IntKind.u64.wrap z = (sh : Int) := fun z hz => by rw [hz]; show (sh : Int) % 18446744073709551616 = _; omega
  have hw2 : ∀ z : Int, z = (sh : Int) → wrap64 ((inner : Int) - z) = (inn : Int) := fun z hz => by rw [hz]; exact sub_w inner sh inn hin b1
  have hw3 : ∀ z : Int, z = (inn : Int) → wrap64 (1 + z) = 1 + (inn : Int) := fun z hz => by rw [hz]; exact (add_w 1 inn b4).trans (by omega)
  have hw4 : ∀ z : Int, z = (border : Int) → wrap64 (1 + (inn : Int) + z) = (l.length : Int) := fun z hz => by rw [hz, hn, show (1 : Int) + (inn : Int) = ((1 + inn : Nat) : Int) by omega]; exact add_w (1 + inn) border b5
  clear b0 b1 b2 b3 b4 b5 e1 e2 e3 hn hs12 hs2 hp hll hlc hin hin2 hbo hs1 hc1 hc2 hl h1 h2 HG_ hd hz hiL hsL HK HKC HKN hsh
  go_enter Tryd.func60, Tryd.ntmps60
  go_wp2_with (first
    | (go_at_call 93; (with_reducible refine (proof_decompInclProof.calls _ _ _ _ _ HD.out).mono ?_); rintro e w2 ⟨rfl, hb⟩; have HG := Aside0.mk (Glob.below HG.out hb.below); have HB := Aside0.mk (below_then HB.out HB.out.size hb.below); have hx2 := pw_cell_below HB.out hx; clear hb)
    | (go_at_call 89; (with_reducible refine (bits_TrailingZeros64.calls _ _ _ HG.out HZ.out).mono ?_); rintro e w3 ⟨rfl, hb⟩; have HB := Aside0.mk (below_then HB.out HB.out.size hb.below); have hx3 := pw_cell_below HB.out hx; clear hb)
    | (go_at_call 94; (with_reducible refine (chainRight_n a0 a1 a2 a3 a4 a5 _ _ _ sd _ _ lt _ (by first | rfl | (have := HTE.out; omega)) q1 _ (Kd.C_below HSD.out HB.out) HSC.out (Kd.C_below HT.out HB.out) (by have := HTL.out; omega) E1.out).mono ?_); rintro e w4 ⟨A3, c3, rfl, hl3, hC3, hb⟩; have HB := Aside0.mk (below_then HB.out HB.out.size hb); have HC3 := Aside0.mk hC3; have HL3 := Aside0.mk hl3; clear hC3 hb hl3)
    | (go_at_call 91; (with_reducible refine (chainBorder_n a0 a1 a2 a3 a4 a5 _ _ q1 _ _ ld _ (by first | rfl | (have := HDE.out; omega)) q _ HC3.out HL3.out (Kd.C_below HR.out HB.out) (by have := HDL.out; omega) E2.out).mono ?_); rintro e w5 ⟨A4, c4, rfl, hl4, hC4, hb⟩; have HB := Aside0.mk (below_then HB.out HB.out.size hb); have HC4 := Aside0.mk hC4; have HL4 := Aside0.mk hl4; clear hC4 hb hl4)
    | (go_at_call 92; (with_reducible refine (match_yes _ _ q _ _ r1 _ HC4.out HL4.out (Kd.C_below H1.out HB.out) H1C.out E3.out).mono ?_); rintro e w6 ⟨rfl, hb⟩; have HB := Aside0.mk (below_then HB.out HB.out.size hb); clear hb)
    | (go_at_call 95; (with_reducible refine (chainInner_n a0 a1 a2 a3 a4 a5 _ _ _ sd _ _ lt _ (by first | rfl | (have := HTE.out; omega)) t1 _ (Kd.C_below HSD.out HB.out) HSC.out (Kd.C_below HT.out HB.out) (by have := HTL.out; omega) E4.out).mono ?_); rintro e w7 ⟨A5, c5, rfl, hl5, hC5, hb⟩; have HB := Aside0.mk (below_then HB.out HB.out.size hb); have HC5 := Aside0.mk hC5; have HL5 := Aside0.mk hl5; clear hC5 hb hl5)
    | (go_at_call 91; (with_reducible refine (chainBorder_n a0 a1 a2 a3 a4 a5 _ _ t1 _ _ ld _ (by first | rfl | (have := HDE.out; omega)) t _ HC5.out HL5.out (Kd.C_below HR.out HB.out) (by have := HDL.out; omega) E5.out).mono ?_); rintro e w8 ⟨A6, c6, rfl, hl6, hC6, hb⟩; have HB := Aside0.mk (below_then HB.out HB.out.size hb); have HC6 := Aside0.mk hC6; have HL6 := Aside0.mk hl6; clear hC6 hb hl6)
    | (go_at_call 92; (with_reducible refine (match_yes _ _ t _ _ r2 _ HC6.out HL6.out (Kd.C_below H2.out HB.out) H2C.out E6.out).mono ?_); rintro e w9 ⟨rfl, hb⟩; have HB := Aside0.mk (below_then HB.out HB.out.size hb); have HC6 := Aside0.mk (Kd.C_below HC6.out hb); clear hb))
  go_ret
  exact ⟨rfl, HB.out⟩

end Go.Proofs.YtfhcpniibiobgaaDoor.Qf
