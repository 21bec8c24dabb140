import Derived.Test.YtpjfokolbgcbhaaDoorEmC
/- The reduction, walked. -/
namespace Go.Proofs.YtpjfokolbgcbhaaDoor.Ge
open Go.RowKit Go.Proofs.YtpjfokolbgcbhaaDoor Go.Proofs.YtpjfokolbgcbhaaDoorW.PrintWords Go.Proofs.YtpjfokolbgcbhaaDoorW.PrintLast Go.Proofs.YtpjfokolbgcbhaaDoorW.PrintMore
open Go.Proofs.YtpjfokolbgcbhaaDoor.QmP (mat rowL upd mat_len rowL_len)
open Go.Proofs.YtpjfokolbgcbhaaDoor.Ro (CL)

set_option maxRecDepth 100000 in
set_option maxHeartbeats 8000000 in
theorem reduced_calls (w : World) (A : Option Addr) (c0 n m : Nat) (M0 : Nat → Nat → Nat) (hn : 0 < n) (hn2 : n ≤ 40) (hnm : n ≤ m) (hm : m ≤ 80) (hbase : 6 ≤ w.heap.size) (hC : CL w A (mat n m M0)) (hc0 : n ≤ c0) (h8 : ∀ i, B8 (M0 i)) (hG : Glob w) :
    Calls Tryd.prog 38 #[.slice A n c0] w (RPost w M0 n m) := by
  have HC := Aside0.mk hC
  have HG := Aside0.mk hG
  have H8 := Aside0.mk h8
  have UP := Aside0.mk (upto_calls n (by omega) w)
  clear hC hG h8
  go_enter Tryd.func38, Tryd.ntmps38
  go_wp2_with (first | (go_at_call 51; (with_reducible refine UP.out.mono ?_); rintro e w1 ⟨A1, c1, rfl, hc1, hC1, hb1⟩; have HC2 := Aside0.mk (Kd.C_below HC.out hb1); have HB1 := Aside0.mk hb1; have HC1 := Aside0.mk hC1; clear hb1 hC1) | (go_at_call 50; (with_reducible refine (chosen_calls n m M0 hn (by omega) (by omega) (by omega) _ A c0 A1 c1 HC2.out HC1.out hc0 hc1).mono ?_); rintro e w2 ⟨g, b0, cc0, cp, rfl, hcp, hmt, hb2⟩; have HB := Aside0.mk (below_step HB1.out hb2); have HM := Aside0.mk (hmt.lower HB1.out.size); clear hb2 hmt))
  (try simp only [Act.put, List.setIfInBounds_toArray, List.set_cons_zero, List.set_cons_succ])
  have S0 : Aside0 (St w w2 w.heap.size g M0 n m (Ci (Inj M0 n m) n 0 0) b0 cc0 M0) := ⟨⟨HM.out, NEq.refl _ _ _, H8.out, fun _ => ⟨rfl, fun i _ j hj => by omega⟩, HB.out, Glob.below HG.out HB.out⟩⟩
  clear HB HM HC1 HC2 HB1 UP
  go_loopg [5, 6] m (fun kq v5 v6 wr => ∃ (r cc : Nat) (b c : Nat → Nat) (M : Nat → Nat → Nat), cc + kq = m ∧ r ≤ n ∧ v5 = .int .i64 (r : Nat) ∧ v6 = .int .i64 (cc : Nat) ∧ Aside0 (St w wr w.heap.size g M0 n m (Ci (Inj M0 n m) n r cc) b c M))
  case atStart => exact ⟨0, 0, b0, cc0, M0, by omega, by omega, rfl, rfl, S0⟩
  case round =>
    clear S0
    obtain ⟨r, cc, b, c, M, hcc, hrn, rfl, rfl, S⟩ := hrel
    have CO := Aside0.mk (columns_calls n m M0 hn wr A c0 (Kd.C_below HC.out S.out.bel) hc0)
    by_cases hcm : cc < m
    · by_cases hlt : r < n
      · have c1 := S.out.mt.top r hlt
        have p1 : (0 : Int) ≤ (r : Int) := by omega
        have p2 : (r : Int) < (n : Int) := by omega
        have p3 : (0 : Int) ≤ (cc : Int) := by omega
        have p4 : (cc : Int) < (m : Int) := by omega
        go_wp2_with (first | (go_at_call 19; (with_reducible refine CO.out.mono ?_); rintro e w1 ⟨rfl, ⟨⟨q, rfl⟩⟩⟩))
        (try simp only [Act.put, List.setIfInBounds_toArray, List.set_cons_zero, List.set_cons_succ])
        have S1 := Aside0.mk (S.out.drewN q)
        clear S CO c1
        generalize wr.drewN q = wa at S1 ⊢
        go_loopg [7] (n - r) (fun kq v7 wy => ∃ t : Nat, r ≤ t ∧ t + kq = n ∧ v7 = .int .i64 (t : Nat) ∧ Aside0 (∀ i, r ≤ i → i < t → M i cc = 0) ∧ wa = wy)
        case atStart => exact ⟨r, by omega, by omega, rfl, ⟨fun i h1 h2 => by omega⟩, rfl⟩
        case round =>
          obtain ⟨t, ht1, ht3, rfl, HZ, rfl⟩ := hrel
          by_cases htn : t < n
          · have d1 := S1.out.mt.top t htn
            have d2 := S1.out.mt.row t cc htn hcm
            have q1 : (0 : Int) ≤ (t : Int) := by omega
            have q2 : (t : Int) < (n : Int) := by omega
            by_cases hzt : M t cc = 0
            · have tq : (((M t cc : Nat) : Int) == 0) = true := by simpa using hzt
              have HZT := Aside0.mk hzt
              clear hzt
              go_wp2
              go_roundg (n - (t + 1))
              case measure => omega
              case rel => exact ⟨t + 1, by omega, by omega, by go_num, ⟨fun i h1 h2 => by
                by_cases e : i = t
                · rw [e]; exact HZT.out
                · exact HZ.out i h1 (by omega)⟩, rfl⟩
            · have tq : (((M t cc : Nat) : Int) == 0) = false := by simpa using hzt
              have HZT := Aside0.mk hzt
              have te : ((t : Int) == (n : Int)) = false := beq_eq_false_iff_ne.2 (by omega)
              have te2 : (t == n) = false := beq_eq_false_iff_ne.2 (by omega)
              clear hzt
              go_upto_region 9 with fail
              go_cut [5, 6] (fun s5 s6 wx => s5 = .int .i64 (r : Nat) ∧ s6 = .int .i64 (cc : Nat) ∧ Aside0 (∃ (b' c' : Nat → Nat) (M' : Nat → Nat → Nat), St w wx w.heap.size g M0 n m (fun M => Ci (Inj M0 n m) n r cc M ∧ M r cc ≠ 0) b' c' M'))
              case first =>
                have c1 := S1.out.mt.top r hlt
                have f1 := S1.out.mt.topf r hlt
                have f2 := S1.out.mt.topf t htn
                have NX : Aside0 (∀ q, St w (((wa.setCell ⟨g, r, none⟩ (.slice (some ⟨b t, 0, none⟩) m (c t))).setCell ⟨g, t, none⟩ (.slice (some ⟨b r, 0, none⟩) m (c r))).drewN q) w.heap.size g M0 n m (fun M => Ci (Inj M0 n m) n r cc M ∧ M r cc ≠ 0) (fun s => b (if s = t then r else if s = r then t else s)) (fun s => c (if s = t then r else if s = r then t else s)) (fun s => M (if s = t then r else if s = r then t else s))) := ⟨fun q => ⟨(S1.out.mt.swap t r htn hlt).drewN q, S1.out.eq.trans (NEq.swap htn hlt (fun j _ => by simp) (fun j _ => by
                    by_cases e : r = t
                    · simp [e]
                    · simp [e]) (fun i _ h1 h2 j _ => by simp [h1, h2])), fun i => S1.out.b8 _, ⟨ci_swap hlt htn ht1 S1.out.p, by
                      show M (if r = t then r else if r = r then t else r) cc ≠ 0
                      by_cases e : r = t
                      · rw [if_pos e, e]; exact HZT.out
                      · rw [if_neg e, if_pos rfl]; exact HZT.out⟩,
                  pw_below_drewN (Below.setCell (Below.setCell S1.out.bel S1.out.mt.lo.1 _) S1.out.mt.lo.1 _) q, Glob.drewN (glob_set (glob_set S1.out.glob (by have := S1.out.mt.lo.1; show 2 ≤ g; omega) _) (by have := S1.out.mt.lo.1; show 2 ≤ g; omega) _) q⟩⟩
                by_cases ert : r = t
                · subst ert
                  clear S1 HZ HZT
                  go_region
                  all_goals (go_wp2; go_meet)
                  all_goals exact ⟨rfl, rfl, ⟨_, _, _, NX.out 1⟩⟩
                · clear S1 HZ HZT
                  go_region
                  all_goals (go_wp2; go_meet)
                  all_goals exact ⟨rfl, rfl, ⟨_, _, _, NX.out 1⟩⟩
              case rest =>
                obtain ⟨rfl, rfl, HK⟩ := hcut
                rename World => wx
                obtain ⟨b1, c1', M1, S1'⟩ := HK.out
                have S2 := Aside0.mk S1'
                clear S1' HK d1 d2 S1 HZ HZT
                have c1 := S2.out.mt.top r hlt
                have c2 := S2.out.mt.row r cc hlt hcm
                obtain ⟨sc, hs, hsm, hsf⟩ := inverse_f (M1 r cc) S2.out.p.2 (S2.out.b8 r cc)
                have INV := Aside0.mk (Qm.spec_Inverse.calls 400 _ _ wx hsf)
                have HSM := Aside0.mk hsm
                have HS0 : Aside0 (sc ≠ 0) := ⟨fun e => by rw [e, gmul_zero_left] at hsm; omega⟩
                clear hsm hsf
                go_wp2_with (first | (go_at_call 52; (with_reducible refine INV.out.mono ?_); rintro e w1 ⟨rfl, ⟨⟨qq, rfl⟩⟩⟩))
                (try simp only [Act.put, List.setIfInBounds_toArray, List.set_cons_zero, List.set_cons_succ])
                have S3 := Aside0.mk (S2.out.drewN qq)
                clear S2 INV c1 c2
                generalize wx.drewN qq = wb at S3 ⊢
                go_loopg [78] m (fun kq v78 wy => ∃ u : Nat, u + kq = m ∧ v78 = .int .i64 (u : Nat) ∧ Aside0 (Mt wy w.heap.size g b1 c1' (fun i j => if i = r ∧ j < u then gmul sc (M1 r j) else M1 i j) n m ∧ Below w.heap.size w wy ∧ Glob wy))
                case atStart => exact ⟨0, by omega, rfl, ⟨S3.out.mt.congr fun i j _ _ => by rw [if_neg (by omega)], S3.out.bel, S3.out.glob⟩⟩
                case round =>
                  obtain ⟨u, hu, rfl, HT⟩ := hrel
                  by_cases hum : u < m
                  · have x1 := HT.out.1.top r hlt
                    have x2 := HT.out.1.row r u hlt hum
                    rw [if_neg (by omega)] at x2
                    have x3 := HT.out.1.rowf r u hlt hum
                    have y1 : (0 : Int) ≤ (u : Int) := by omega
                    have y2 : (u : Int) < (m : Int) := by omega
                    have MU := Aside0.mk (mul_up (k := 60) (M1 r u) sc (S3.out.b8 r u) hs (by omega))
                    have NX : Aside0 (∀ q, Mt ((wr.drewN q).setCell ⟨b1 r, u, none⟩ (.int .u8 ((gmul (M1 r u) sc : Nat) : Int))) w.heap.size g b1 c1' (fun i j => if i = r ∧ j < u + 1 then gmul sc (M1 r j) else M1 i j) n m ∧ Below w.heap.size w ((wr.drewN q).setCell ⟨b1 r, u, none⟩ (.int .u8 ((gmul (M1 r u) sc : Nat) : Int))) ∧ Glob ((wr.drewN q).setCell ⟨b1 r, u, none⟩ (.int .u8 ((gmul (M1 r u) sc : Nat) : Int)))) := ⟨fun q => ⟨((HT.out.1.drewN q).set r u hlt hum (gmul (M1 r u) sc)).congr fun i j _ _ => by
                        unfold upd
                        by_cases e1 : i = r
                        · subst e1
                          by_cases e2 : j = u
                          · subst e2; simp [gmul_comm]
                          · have e3 : (j < u + 1) = (j < u) := by rw [eq_iff_iff]; omega
                            simp [e2, e3]
                        · simp [e1], Below.setCell (pw_below_drewN HT.out.2.1 q) (HT.out.1.lo.2 r hlt) _, glob_set (Glob.drewN HT.out.2.2 q) (by have := HT.out.1.lo.2 r hlt; show 2 ≤ b1 r; omega) _⟩⟩
                    go_upto_region 14 with fail
                    go_region_law (first | (go_simp; go_at_call 15; refine (Qm.spec_Mul.calls 60 _ _ _ _ MU.out).mono ?_; rintro e w1 ⟨rfl, ⟨⟨q, rfl⟩⟩⟩))
                    all_goals
                      go_wp2
                      go_roundg (m - (u + 1))
                      case measure => omega
                      case rel => exact ⟨u + 1, by omega, by go_num, ⟨NX.out _⟩⟩
                  · obtain rfl : u = m := by omega
                    have tq : decide (u < u) = false := decide_eq_false (by omega)
                    have S4 : Aside0 (St w wr w.heap.size g M0 n u (El (Inj M0 n u) n r cc 0) b1 c1' (fun i j => if i = r ∧ j < u then gmul sc (M1 r j) else M1 i j)) := ⟨⟨HT.out.1, S3.out.eq.trans (NEq.scale (s := sc) hlt hs HS0.out (fun j hj => by simp [hj]) (fun i _ h1 j _ => by simp [h1])), fun i j => by
                        show (if i = r ∧ j < u then gmul sc (M1 r j) else M1 i j) < 256
                        split
                        · exact gmul_lt _ _
                        · exact S3.out.b8 i j, ⟨ci_scale S3.out.p.1, by
                          show (if r = r ∧ cc < u then gmul sc (M1 r cc) else M1 r cc) = 1
                          rw [if_pos ⟨rfl, hcm⟩]; exact HSM.out, fun i hi => by omega⟩, HT.out.2.1, HT.out.2.2⟩⟩
                    clear HT S3 HSM HS0
                    generalize (fun i j => if i = r ∧ j < u then gmul sc (M1 r j) else M1 i j) = M2 at S4
                    go_wp2
                    (try simp only [Act.put, List.setIfInBounds_toArray, List.set_cons_zero, List.set_cons_succ])
                    go_loopg [99] n (fun kq v wy => ∃ (t : Nat) (b c : Nat → Nat) (M : Nat → Nat → Nat), t + kq = n ∧ v = .int .i64 (t : Nat) ∧ Aside0 (St w wy w.heap.size g M0 n u (El (Inj M0 n u) n r cc t) b c M))
                    case atStart => exact ⟨0, b1, c1', M2, by omega, rfl, S4⟩
                    case round =>
                      clear S4
                      obtain ⟨t, b3, c3, M3, ht, rfl, S5⟩ := hrel
                      by_cases htn : t < n
                      · have d1 := S5.out.mt.top t htn
                        have d2 := S5.out.mt.row t cc htn hcm
                        have q1 : (0 : Int) ≤ (t : Int) := by omega
                        have q2 : (t : Int) < (n : Int) := by omega
                        by_cases htr : t = r
                        · subst htr
                          have ne1 : ((t : Int) != (t : Int)) = false := by simp
                          go_wp2
                          go_roundg (n - (t + 1))
                          case measure => omega
                          case rel => exact ⟨t + 1, b3, c3, M3, by omega, by go_num, ⟨S5.out.mt, S5.out.eq, S5.out.b8, ⟨S5.out.p.1, S5.out.p.2.1, fun i h1 h2 => S5.out.p.2.2 i (by omega) h2⟩, S5.out.bel, S5.out.glob⟩⟩
                        · have ne1 : ((t : Int) != (r : Int)) = true := by rw [bne_iff_ne]; omega
                          have ne2 : (t != r) = true := by rw [bne_iff_ne]; omega
                          by_cases hzt : M3 t cc = 0
                          · have tq : (((M3 t cc : Nat) : Int) != 0) = false := by rw [bne_eq_false_iff_eq]; omega
                            have HZT := Aside0.mk hzt
                            clear hzt
                            go_wp2
                            go_roundg (n - (t + 1))
                            case measure => omega
                            case rel => exact ⟨t + 1, b3, c3, M3, by omega, by go_num, ⟨S5.out.mt, S5.out.eq, S5.out.b8, ⟨S5.out.p.1, S5.out.p.2.1, fun i h1 h2 => by
                              by_cases e : i = t
                              · rw [e]; exact HZT.out
                              · exact S5.out.p.2.2 i (by omega) h2⟩, S5.out.bel, S5.out.glob⟩⟩
                          · have tq : (((M3 t cc : Nat) : Int) != 0) = true := by rw [bne_iff_ne]; omega
                            clear hzt
                            have hsc := S5.out.b8 t cc
                            go_wp2
                            (try simp only [Act.put, List.setIfInBounds_toArray, List.set_cons_zero, List.set_cons_succ])
                            go_loopg [121] u (fun kq v wz => ∃ x : Nat, x + kq = u ∧ v = .int .i64 (x : Nat) ∧ Aside0 (Mt wz w.heap.size g b3 c3 (radd M3 t r (M3 t cc) x) n u ∧ Below w.heap.size w wz ∧ Glob wz))
                            case atStart => exact ⟨0, by omega, rfl, ⟨S5.out.mt.congr fun i j _ _ => by unfold radd; rw [if_neg (by omega)], S5.out.bel, S5.out.glob⟩⟩
                            case round =>
                              obtain ⟨x, hx, rfl, HU⟩ := hrel
                              by_cases hxm : x < u
                              · have x1 := HU.out.1.top t htn
                                have x2 := HU.out.1.row t x htn hxm
                                unfold radd at x2
                                rw [if_neg (by omega)] at x2
                                have x3 := HU.out.1.rowf t x htn hxm
                                have x4 := HU.out.1.top r hlt
                                have x5 := HU.out.1.row r x hlt hxm
                                rw [radd_other (by omega)] at x5
                                have y1 : (0 : Int) ≤ (x : Int) := by omega
                                have y2 : (x : Int) < (u : Int) := by omega
                                have MU := Aside0.mk (mul_up (k := 60) (M3 t cc) (M3 r x) hsc (S5.out.b8 r x) (by omega))
                                have XR := Pure.xor_u8 (M3 t x) (gmul (M3 t cc) (M3 r x)) (S5.out.b8 _ _) (gmul_lt _ _)
                                have NX : Aside0 (∀ q, Mt ((wr.drewN q).setCell ⟨b3 t, x, none⟩ (.int .u8 (((M3 t x ^^^ gmul (M3 t cc) (M3 r x)) : Nat) : Int))) w.heap.size g b3 c3 (radd M3 t r (M3 t cc) (x + 1)) n u ∧ Below w.heap.size w ((wr.drewN q).setCell ⟨b3 t, x, none⟩ (.int .u8 (((M3 t x ^^^ gmul (M3 t cc) (M3 r x)) : Nat) : Int))) ∧ Glob ((wr.drewN q).setCell ⟨b3 t, x, none⟩ (.int .u8 (((M3 t x ^^^ gmul (M3 t cc) (M3 r x)) : Nat) : Int)))) := ⟨fun q => ⟨((HU.out.1.drewN q).set t x htn hxm _).congr fun i j _ _ => radd_step M3 t r _ x i j, Below.setCell (pw_below_drewN HU.out.2.1 q) (HU.out.1.lo.2 t htn) _, glob_set (Glob.drewN HU.out.2.2 q) (by have := HU.out.1.lo.2 t htn; show 2 ≤ b3 t; omega) _⟩⟩
                                go_upto_region 24 with fail
                                go_region_law (first | (go_simp; go_at_call 15; refine (Qm.spec_Mul.calls 60 _ _ _ _ MU.out).mono ?_; rintro e w1 ⟨rfl, ⟨⟨q, rfl⟩⟩⟩))
                                all_goals
                                  go_wp2
                                  go_roundg (u - (x + 1))
                                  case measure => omega
                                  case rel => exact ⟨x + 1, by omega, by go_num, ⟨NX.out _⟩⟩
                              · obtain rfl : x = u := by omega
                                have tq : decide (x < x) = false := decide_eq_false (by omega)
                                have S9 : Aside0 (St w wr w.heap.size g M0 n x (El (Inj M0 n x) n r cc (t + 1)) b3 c3 (radd M3 t r (M3 t cc) x)) := ⟨⟨HU.out.1, S5.out.eq.trans (radd_eq S5.out.b8 htn hlt htr hsc), radd_b8 S5.out.b8 _ _ _ _, el_radd S5.out.b8 hcm hlt htr S5.out.p, HU.out.2.1, HU.out.2.2⟩⟩
                                go_wp2
                                go_roundg (n - (t + 1))
                                case measure => omega
                                case rel => exact ⟨t + 1, b3, c3, _, by omega, by go_num, S9⟩
                      · obtain rfl : t = n := by omega
                        have tq : decide (t < t) = false := decide_eq_false (by omega)
                        have S9 : Aside0 (St w wr w.heap.size g M0 t u (Ci (Inj M0 t u) t (r + 1) (cc + 1)) b3 c3 M3) := ⟨⟨S5.out.mt, S5.out.eq, S5.out.b8, el_next S5.out.p, S5.out.bel, S5.out.glob⟩⟩
                        go_wp2
                        go_roundg (u - (cc + 1))
                        case measure => omega
                        case rel => exact ⟨r + 1, cc + 1, b3, c3, M3, by omega, by omega, by go_num, by go_num, S9⟩
          · obtain rfl : t = n := by omega
            have tq : decide (t < t) = false := decide_eq_false (by omega)
            have S' := Aside0.mk (St.mk (M0 := M0) (P := Ci (Inj M0 t m) t r (cc + 1)) S1.out.mt S1.out.eq S1.out.b8 (ci_none S1.out.b8 S1.out.eq hlt hnm S1.out.p fun i h1 h2 => HZ.out i h1 (by omega)) S1.out.bel S1.out.glob)
            go_wp2
            go_roundg (m - (cc + 1))
            case measure => omega
            case rel => exact ⟨r, cc + 1, b, c, M, by omega, by omega, rfl, by go_num, S'⟩
      · obtain rfl : r = n := by omega
        have tq : decide (r < r) = false := decide_eq_false (by omega)
        have p4 : (cc : Int) < (m : Int) := by omega
        go_wp2_with (first | (go_at_call 19; (with_reducible refine CO.out.mono ?_); rintro e w1 ⟨rfl, ⟨⟨q, rfl⟩⟩⟩))
        go_ret2
        unfold RPost
        exact ⟨g, cp, r, b, c, M, rfl, hcp, (S.out.drewN q).mt, S.out.eq, S.out.b8, fun hI i hi j hj => (S.out.p hI).2 i hi j (by have := (S.out.p hI).1; omega), (S.out.drewN q).bel, (S.out.drewN q).glob⟩
    · obtain rfl : cc = m := by omega
      have tq : decide (cc < cc) = false := decide_eq_false (by omega)
      go_wp2_with (first | (go_at_call 19; (with_reducible refine CO.out.mono ?_); rintro e w1 ⟨rfl, ⟨⟨q, rfl⟩⟩⟩))
      go_ret2
      unfold RPost
      exact ⟨g, cp, r, b, c, M, rfl, hcp, (S.out.drewN q).mt, S.out.eq, S.out.b8, fun hI i hi j hj => (S.out.p hI).2 i hi j (by omega), (S.out.drewN q).bel, (S.out.drewN q).glob⟩
end Go.Proofs.YtpjfokolbgcbhaaDoor.Ge
