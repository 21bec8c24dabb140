import Derived.Test.YtpjfokolbgcbhaaDoorEmA
import Derived.Deep.RegionHeld3
import Derived.Deep.RegionLaw
import Derived.Outline
/- The elimination, walked. -/
namespace Go.Proofs.YtpjfokolbgcbhaaDoor.Ge
open Go.RowKit Go.Proofs.YtpjfokolbgcbhaaDoor Go.Proofs.YtpjfokolbgcbhaaDoorW.PrintWords Go.Proofs.YtpjfokolbgcbhaaDoorW.PrintLast Go.Proofs.YtpjfokolbgcbhaaDoorW.PrintMore
open Go.Proofs.YtpjfokolbgcbhaaDoor.QmP (mat rowL upd mat_len rowL_len)

/-- What holds of the matrix on the way. -/
structure St (w0 wr : World) (base g : Nat) (M0 : Nat → Nat → Nat) (n m : Nat) (P : (Nat → Nat → Nat) → Prop) (b c : Nat → Nat) (M : Nat → Nat → Nat) : Prop where
  mt : Mt wr base g b c M n m
  eq : NEq n m M0 M
  b8 : ∀ i, B8 (M i)
  p : P M
  bel : Below base w0 wr
  glob : Glob wr
def GPost (w : World) (base g : Nat) (M0 : Nat → Nat → Nat) (n m : Nat) (er : Value) (e : Ending) (w' : World) : Prop :=
  (∃ b c M, e = .returned .nilIface ∧ St w w' base g M0 n m (fun M => ∀ i, i < n → ∀ j, j < n → M i j = if i = j then 1 else 0) b c M) ∨ (e = .returned er ∧ ¬ Inj M0 n m ∧ Below base w w')

set_option maxRecDepth 100000 in
set_option maxHeartbeats 8000000 in
theorem gauss_calls (w : World) (base g : Nat) (b0 c0 : Nat → Nat) (M0 : Nat → Nat → Nat) (n m cp : Nat) (x : Addr) (hn : 0 < n) (hn2 : n ≤ 40) (hnm : n ≤ m) (hm : m ≤ 40) (hbase : 6 ≤ base) (h : Mt w base g b0 c0 M0 n m) (h8 : ∀ i, B8 (M0 i)) (hG : Glob w) (hx : w.cell? ⟨2, 0, none⟩ = some (.iface 75 (.pointer (some x)))) :
    Calls Tryd.prog 49 #[.slice (some ⟨g, 0, none⟩) n cp] w (GPost w base g M0 n m (.iface 75 (.pointer (some x)))) := by
  have S0 := Aside0.mk (St.mk (P := Low n 0) h (NEq.refl _ _ _) h8 ⟨fun i hi => by omega, fun i j _ hj => by omega⟩ (Below.refl _ _) hG)
  have HX := Aside0.mk hx
  have ct := h.top 0 hn
  have hb0 := h.lo
  clear h h8 hG hx
  go_enter Tryd.func49, Tryd.ntmps49
  go_wp2
  (try simp only [Act.put, List.setIfInBounds_toArray, List.set_cons_zero, List.set_cons_succ])
  go_loopg [24] n (fun kq v24 wr => ∃ (r : Nat) (b c : Nat → Nat) (M : Nat → Nat → Nat), r + kq = n ∧ v24 = .int .i64 (r : Nat) ∧ Aside0 (St w wr base g M0 n m (Low n r) b c M))
  case atStart => exact ⟨0, b0, c0, M0, by omega, rfl, S0⟩
  case round =>
    clear S0 ct
    obtain ⟨r, b, c, M, hr, rfl, S⟩ := hrel
    by_cases hlt : r < n
    · have c1 := S.out.mt.top r hlt
      have c2 := S.out.mt.row r r hlt (by omega)
      have p1 : (0 : Int) ≤ (r : Int) := by omega
      have p2 : (r : Int) < (n : Int) := by omega
      have p3 : (r : Int) < (m : Int) := by omega
      go_upto_if 34 with fail
      go_cut [5] (fun s5 wx => s5 = .int .i64 (r : Nat) ∧ Aside0 (∃ (b' c' : Nat → Nat) (M' : Nat → Nat → Nat), St w wx base g M0 n m (fun M => Low n r M ∧ (M r r ≠ 0 ∨ ∀ i, r ≤ i → i < n → M i r = 0)) b' c' M'))
      case first =>
        by_cases hz : M r r = 0
        · have tz : (((M r r : Nat) : Int) == 0) = true := by simpa using hz
          go_wp2
          (try simp only [Act.put, List.setIfInBounds_toArray, List.set_cons_zero, List.set_cons_succ])
          go_loopg [6] (n - r) (fun kq v6 wy => ∃ t : Nat, r + 1 ≤ t ∧ t ≤ n ∧ t + kq = n + 1 ∧ v6 = .int .i64 (t : Nat) ∧ Aside0 (∀ i, r ≤ i → i < t → M i r = 0) ∧ wr = wy)
          case atStart => exact ⟨r + 1, by omega, by omega, by omega, by go_num, ⟨fun i h1 h2 => by rw [show i = r by omega]; exact hz⟩, rfl⟩
          case round =>
            obtain ⟨t, ht1, ht2, ht3, rfl, HZ, rfl⟩ := hrel
            by_cases htn : t < n
            · have d1 := S.out.mt.top t htn
              have d2 := S.out.mt.row t r htn (by omega)
              have q1 : (0 : Int) ≤ (t : Int) := by omega
              have q2 : (t : Int) < (n : Int) := by omega
              by_cases hzt : M t r = 0
              · have tq : (((M t r : Nat) : Int) != 0) = false := by rw [bne_eq_false_iff_eq]; omega
                have HZT := Aside0.mk hzt
                clear hzt
                go_wp2
                go_roundg (n - t)
                case measure => omega
                case rel => exact ⟨t + 1, by omega, by omega, by omega, by go_num, ⟨fun i h1 h2 => by
                  by_cases e : i = t
                  · rw [e]; exact HZT.out
                  · exact HZ.out i h1 (by omega)⟩, rfl⟩
              · have tq : (((M t r : Nat) : Int) != 0) = true := by rw [bne_iff_ne]; omega
                have SW := Aside0.mk (swap_calls wr base g b c M n m cp r t S.out.mt hlt htn (by omega))
                have NX : Aside0 (∀ q, St w (((wr.setCell ⟨g, t, none⟩ (.slice (some ⟨b r, 0, none⟩) m (c r))).setCell ⟨g, r, none⟩ (.slice (some ⟨b t, 0, none⟩) m (c t))).drewN q) base g M0 n m (fun M => Low n r M ∧ (M r r ≠ 0 ∨ ∀ i, r ≤ i → i < n → M i r = 0)) (fun s => b (if s = r then t else if s = t then r else s)) (fun s => c (if s = r then t else if s = t then r else s)) (fun s => M (if s = r then t else if s = t then r else s))) := ⟨fun q => ⟨(S.out.mt.swap r t hlt htn).drewN q, S.out.eq.trans (NEq.swap hlt htn (fun j _ => by simp) (fun j _ => by
                    by_cases e : t = r
                    · omega
                    · simp [e]) (fun i _ h1 h2 j _ => by simp [h1, h2])), fun i => S.out.b8 _, ⟨⟨fun i hi => by
                      show M (if i = r then t else if i = t then r else i) i = 1
                      rw [if_neg (by omega), if_neg (by omega)]; exact S.out.p.1 i hi, fun i j hi hj hji => by
                      show M (if i = r then t else if i = t then r else i) j = 0
                      by_cases e1 : i = r
                      · rw [if_pos e1]; exact S.out.p.2 t j htn hj (by omega)
                      · rw [if_neg e1]
                        by_cases e2 : i = t
                        · rw [if_pos e2]; exact S.out.p.2 r j hlt hj (by omega)
                        · rw [if_neg e2]; exact S.out.p.2 i j hi hj hji⟩, .inl (by show M (if r = r then t else if r = t then r else r) r ≠ 0; rw [if_pos rfl]; exact hzt)⟩,
                  pw_below_drewN (Below.setCell (Below.setCell S.out.bel S.out.mt.lo.1 _) S.out.mt.lo.1 _) q, Glob.drewN (glob_set (glob_set S.out.glob (by have := S.out.mt.lo.1; show 2 ≤ g; omega) _) (by have := S.out.mt.lo.1; show 2 ≤ g; omega) _) q⟩⟩
                clear hzt
                go_wp2_with (first | (go_at_call 56; (with_reducible refine SW.out.mono ?_); rintro e w1 ⟨rfl, q, rfl⟩))
                go_meet
                exact ⟨rfl, ⟨_, _, _, NX.out q⟩⟩
            · have S' := Aside0.mk (St.mk (P := fun M => Low n r M ∧ (M r r ≠ 0 ∨ ∀ i, r ≤ i → i < n → M i r = 0)) S.out.mt S.out.eq S.out.b8 ⟨S.out.p, .inr fun i h1 h2 => HZ.out i h1 (by omega)⟩ S.out.bel S.out.glob)
              have tq : decide (t < n) = false := decide_eq_false htn
              go_wp2
              go_meet
              exact ⟨rfl, ⟨b, c, M, S'.out⟩⟩
        · have tz : (((M r r : Nat) : Int) == 0) = false := by simpa using hz
          have S' := Aside0.mk (St.mk (P := fun M => Low n r M ∧ (M r r ≠ 0 ∨ ∀ i, r ≤ i → i < n → M i r = 0)) S.out.mt S.out.eq S.out.b8 ⟨S.out.p, .inl hz⟩ S.out.bel S.out.glob)
          clear hz
          go_wp2
          go_meet
          exact ⟨rfl, ⟨b, c, M, S'.out⟩⟩
      case rest =>
        obtain ⟨rfl, HC⟩ := hcut
        obtain ⟨b1, c1', M1, S1⟩ := HC.out
        have S2 := Aside0.mk S1
        clear S1 HC c1 c2 S
        have c1 := S2.out.mt.top r hlt
        have c2 := S2.out.mt.row r r hlt (by omega)
        by_cases hz : M1 r r = 0
        · have tz : (((M1 r r : Nat) : Int) == 0) = true := by simpa using hz
          have HE := Aside0.mk ((S2.out.bel.cell (p := ⟨2, 0, none⟩) (show 2 < base by omega)).trans HX.out)
          have he := HE.out
          have NI : Aside0 (¬ Inj M0 n m) := ⟨fun hI => by
            have hz2 : ∀ i, r ≤ i → i < n → M1 i r = 0 := by
              rcases S2.out.p.2 with h | h
              · exact absurd hz h
              · exact h
            exact no_pivot S2.out.b8 hlt hnm S2.out.p.1.1 S2.out.p.1.2 hz2 (hI.of S2.out.eq)⟩
          clear hz
          go_wp2
          go_ret
          unfold GPost
          exact .inr ⟨rfl, NI.out, S2.out.bel⟩
        · have tz : (((M1 r r : Nat) : Int) == 0) = false := by simpa using hz
          have HZ := Aside0.mk hz
          clear hz
          go_upto_if 73 with fail
          go_cut [5] (fun s5 wx => s5 = .int .i64 (r : Nat) ∧ Aside0 (∃ (b' c' : Nat → Nat) (M' : Nat → Nat → Nat), St w wx base g M0 n m (fun M => Low n r M ∧ M r r = 1) b' c' M'))
          case first =>
            by_cases h1 : M1 r r = 1
            · have t1 : (((M1 r r : Nat) : Int) != 1) = false := by rw [bne_eq_false_iff_eq]; omega
              have S' := Aside0.mk (St.mk (P := fun M => Low n r M ∧ M r r = 1) S2.out.mt S2.out.eq S2.out.b8 ⟨S2.out.p.1, h1⟩ S2.out.bel S2.out.glob)
              clear h1
              go_wp2
              go_meet
              exact ⟨rfl, ⟨b1, c1', M1, S'.out⟩⟩
            · have t1 : (((M1 r r : Nat) : Int) != 1) = true := by rw [bne_iff_ne]; omega
              clear h1
              have INV := Aside0.mk (inv_calls (M1 r r) HZ.out (S2.out.b8 r r) _ S2.out.glob)
              have hs := ginv_lt (M1 r r)
              have hs0 := Aside0.mk (ginv_ne HZ.out (S2.out.b8 r r))
              have hs1 := Aside0.mk (ginv_mul HZ.out (S2.out.b8 r r))
              generalize ginv (M1 r r) = sc at INV hs hs0 hs1
              go_wp2_with (first | (go_at_call 57; (with_reducible refine INV.out.mono ?_); rintro e w1 ⟨rfl, rfl⟩))
              (try simp only [Act.put, List.setIfInBounds_toArray, List.set_cons_zero, List.set_cons_succ])
              go_loopg [83] m (fun kq v83 wy => ∃ t : Nat, t + kq = m ∧ v83 = .int .i64 (t : Nat) ∧ Aside0 (Mt wy base g b1 c1' (fun i j => if i = r ∧ j < t then gmul sc (M1 r j) else M1 i j) n m ∧ Below base w wy ∧ Glob wy))
              case atStart => exact ⟨0, by omega, rfl, ⟨S2.out.mt.congr fun i j _ _ => by rw [if_neg (by omega)], S2.out.bel, S2.out.glob⟩⟩
              case round =>
                obtain ⟨t, ht, rfl, HT⟩ := hrel
                by_cases htm : t < m
                · have d1 := HT.out.1.top r hlt
                  have d2 := HT.out.1.row r t hlt htm
                  rw [if_neg (by omega)] at d2
                  have d3 := HT.out.1.rowf r t hlt htm
                  have d4 := HT.out.2.2
                  have q1 : (0 : Int) ≤ (t : Int) := by omega
                  have q2 : (t : Int) < (m : Int) := by omega
                  have MU := Aside0.mk (Pure.galmul_of (M1 r t) sc (S2.out.b8 r t) hs)
                  have NX : Aside0 (∀ q, Mt ((wr.drewN q).setCell ⟨b1 r, t, none⟩ (.int .u8 ((gmul (M1 r t) sc : Nat) : Int))) base g b1 c1' (fun i j => if i = r ∧ j < t + 1 then gmul sc (M1 r j) else M1 i j) n m ∧ Below base w ((wr.drewN q).setCell ⟨b1 r, t, none⟩ (.int .u8 ((gmul (M1 r t) sc : Nat) : Int))) ∧ Glob ((wr.drewN q).setCell ⟨b1 r, t, none⟩ (.int .u8 ((gmul (M1 r t) sc : Nat) : Int)))) := ⟨fun q => ⟨((HT.out.1.drewN q).set r t hlt htm (gmul (M1 r t) sc)).congr fun i j _ _ => by
                      unfold upd
                      by_cases e1 : i = r
                      · subst e1
                        by_cases e2 : j = t
                        · subst e2; simp [gmul_comm]
                        · have e3 : (j < t + 1) = (j < t) := by rw [eq_iff_iff]; omega
                          simp [e2, e3]
                      · simp [e1], Below.setCell (pw_below_drewN HT.out.2.1 q) (HT.out.1.lo.2 r hlt) _, glob_set (Glob.drewN d4 q) (by have := HT.out.1.lo.2 r hlt; show 2 ≤ b1 r; omega) _⟩⟩
                  go_upto_region 21 with fail
                  go_region_law (first | (go_simp; go_at_call 42; refine (Qm.reedsolomon_galMultiply.calls _ _ _ _ (by first | exact Glob.drewN d4 _ | exact Glob.drewN (Glob.drewN d4 1) _) MU.out).mono ?_; rintro e w1 ⟨rfl, ⟨⟨q, rfl⟩⟩⟩))
                  all_goals
                    go_wp2
                    go_roundg (m - (t + 1))
                    case measure => omega
                    case rel => exact ⟨t + 1, by omega, by go_num, ⟨NX.out _⟩⟩
                · obtain rfl : t = m := by omega
                  have tq : decide (t < t) = false := decide_eq_false (by omega)
                  have S' := Aside0.mk (St.mk (P := fun M => Low n r M ∧ M r r = 1) (M0 := M0) HT.out.1 (S2.out.eq.trans (NEq.scale (s := sc) hlt hs hs0.out (fun j hj => by simp [hj]) (fun i _ h1 j _ => by simp [h1]))) (fun i j => by
                      show (if i = r ∧ j < t then gmul sc (M1 r j) else M1 i j) < 256
                      split
                      · exact gmul_lt _ _
                      · exact S2.out.b8 i j) ⟨⟨fun i hi => by
                        show (if i = r ∧ i < t then gmul sc (M1 r i) else M1 i i) = 1
                        rw [if_neg (by omega)]; exact S2.out.p.1.1 i hi, fun i j hi hj hji => by
                        show (if i = r ∧ j < t then gmul sc (M1 r j) else M1 i j) = 0
                        by_cases e : i = r
                        · subst e
                          rw [if_pos ⟨rfl, by omega⟩, S2.out.p.1.2 i j hi hj hji, gmul_zero_right]
                        · rw [if_neg (fun h => e h.1)]; exact S2.out.p.1.2 i j hi hj hji⟩, by
                        show (if r = r ∧ r < t then gmul sc (M1 r r) else M1 r r) = 1
                        rw [if_pos ⟨rfl, by omega⟩]; exact hs1.out⟩ HT.out.2.1 HT.out.2.2)
                  go_wp2
                  go_meet
                  exact ⟨rfl, ⟨b1, c1', _, S'.out⟩⟩
          case rest =>
            obtain ⟨rfl, HC⟩ := hcut
            obtain ⟨b2, c2', M2, S3'⟩ := HC.out
            have S3 := Aside0.mk S3'
            clear S3' HC c1 c2 S2
            go_wp2
            (try simp only [Act.put, List.setIfInBounds_toArray, List.set_cons_zero, List.set_cons_succ])
            go_loopg [10] (n - r) (fun kq v10 wy => ∃ (t : Nat) (b c : Nat → Nat) (M : Nat → Nat → Nat), r + 1 ≤ t ∧ t ≤ n ∧ t + kq = n + 1 ∧ v10 = .int .i64 (t : Nat) ∧ Aside0 (St w wy base g M0 n m (fun M => Low n r M ∧ M r r = 1 ∧ ∀ i, r < i → i < t → M i r = 0) b c M))
            case atStart => exact ⟨r + 1, b2, c2', M2, by omega, by omega, by omega, by go_num, ⟨S3.out.mt, S3.out.eq, S3.out.b8, ⟨S3.out.p.1, S3.out.p.2, fun i h1 h2 => by omega⟩, S3.out.bel, S3.out.glob⟩⟩
            case round =>
              clear S3
              obtain ⟨t, b3, c3, M3, ht1, ht2, ht3, rfl, S4⟩ := hrel
              by_cases htn : t < n
              · have d1 := S4.out.mt.top t htn
                have d2 := S4.out.mt.row t r htn (by omega)
                have q1 : (0 : Int) ≤ (t : Int) := by omega
                have q2 : (t : Int) < (n : Int) := by omega
                by_cases hzt : M3 t r = 0
                · have tq : (((M3 t r : Nat) : Int) != 0) = false := by rw [bne_eq_false_iff_eq]; omega
                  have HZT := Aside0.mk hzt
                  clear hzt
                  go_wp2
                  go_roundg (n - t)
                  case measure => omega
                  case rel => exact ⟨t + 1, b3, c3, M3, by omega, by omega, by omega, by go_num, ⟨S4.out.mt, S4.out.eq, S4.out.b8, ⟨S4.out.p.1, S4.out.p.2.1, fun i h1 h2 => by
                    by_cases e : i = t
                    · rw [e]; exact HZT.out
                    · exact S4.out.p.2.2 i h1 (by omega)⟩, S4.out.bel, S4.out.glob⟩⟩
                · have tq : (((M3 t r : Nat) : Int) != 0) = true := by rw [bne_iff_ne]; omega
                  clear hzt
                  have hsc := S4.out.b8 t r
                  go_wp2
                  (try simp only [Act.put, List.setIfInBounds_toArray, List.set_cons_zero, List.set_cons_succ])
                  go_loopg [125] m (fun kq v wz => ∃ u : Nat, u + kq = m ∧ v = .int .i64 (u : Nat) ∧ Aside0 (Mt wz base g b3 c3 (radd M3 t r (M3 t r) u) n m ∧ Below base w wz ∧ Glob wz))
                  case atStart => exact ⟨0, by omega, rfl, ⟨S4.out.mt.congr fun i j _ _ => by unfold radd; rw [if_neg (by omega)], S4.out.bel, S4.out.glob⟩⟩
                  case round =>
                    obtain ⟨u, hu, rfl, HU⟩ := hrel
                    by_cases hum : u < m
                    · have x1 := HU.out.1.top t htn
                      have x2 := HU.out.1.row t u htn hum
                      unfold radd at x2
                      rw [if_neg (by omega)] at x2
                      have x3 := HU.out.1.rowf t u htn hum
                      have x4 := HU.out.1.top r hlt
                      have x5 := HU.out.1.row r u hlt hum
                      rw [radd_other (by omega)] at x5
                      have d4 := HU.out.2.2
                      have y1 : (0 : Int) ≤ (u : Int) := by omega
                      have y2 : (u : Int) < (m : Int) := by omega
                      have MU := Aside0.mk (Pure.galmul_of (M3 t r) (M3 r u) hsc (S4.out.b8 r u))
                      have XR := Pure.xor_u8 (M3 t u) (gmul (M3 t r) (M3 r u)) (S4.out.b8 _ _) (gmul_lt _ _)
                      have NX : Aside0 (∀ q, Mt ((wr.drewN q).setCell ⟨b3 t, u, none⟩ (.int .u8 (((M3 t u ^^^ gmul (M3 t r) (M3 r u)) : Nat) : Int))) base g b3 c3 (radd M3 t r (M3 t r) (u + 1)) n m ∧ Below base w ((wr.drewN q).setCell ⟨b3 t, u, none⟩ (.int .u8 (((M3 t u ^^^ gmul (M3 t r) (M3 r u)) : Nat) : Int))) ∧ Glob ((wr.drewN q).setCell ⟨b3 t, u, none⟩ (.int .u8 (((M3 t u ^^^ gmul (M3 t r) (M3 r u)) : Nat) : Int)))) := ⟨fun q => ⟨((HU.out.1.drewN q).set t u htn hum _).congr fun i j _ _ => radd_step M3 t r _ u i j, Below.setCell (pw_below_drewN HU.out.2.1 q) (HU.out.1.lo.2 t htn) _, glob_set (Glob.drewN d4 q) (by have := HU.out.1.lo.2 t htn; show 2 ≤ b3 t; omega) _⟩⟩
                      go_upto_region 31 with fail
                      go_region_law (first | (go_simp; go_at_call 42; refine (Qm.reedsolomon_galMultiply.calls _ _ _ _ (by first | exact Glob.drewN d4 _ | exact Glob.drewN (Glob.drewN d4 1) _) MU.out).mono ?_; rintro e w1 ⟨rfl, ⟨⟨q, rfl⟩⟩⟩))
                      all_goals
                        go_wp2
                        go_roundg (m - (u + 1))
                        case measure => omega
                        case rel => exact ⟨u + 1, by omega, by go_num, ⟨NX.out _⟩⟩
                    · obtain rfl : u = m := by omega
                      have tq : decide (u < u) = false := decide_eq_false (by omega)
                      have S9 := Aside0.mk (St.mk (M0 := M0) (P := fun M => Low n r M ∧ M r r = 1 ∧ ∀ i, r < i → i < t + 1 → M i r = 0) HU.out.1 (S4.out.eq.trans (radd_eq S4.out.b8 htn hlt (by omega) hsc)) (radd_b8 S4.out.b8 _ _ _ _) (radd_low S4.out.b8 hnm (by omega) htn S4.out.p) HU.out.2.1 HU.out.2.2)
                      go_wp2
                      go_roundg (n - t)
                      case measure => omega
                      case rel => exact ⟨t + 1, b3, c3, _, by omega, by omega, by omega, by go_num, S9⟩
              · obtain rfl : t = n := by omega
                have tq : decide (t < t) = false := decide_eq_false (by omega)
                go_wp2
                go_roundg (t - (r + 1))
                case measure => omega
                case rel => exact ⟨r + 1, b3, c3, M3, by omega, by go_num, ⟨S4.out.mt, S4.out.eq, S4.out.b8, ⟨fun i hi => by
                    by_cases e : i = r
                    · rw [e]; exact S4.out.p.2.1
                    · exact S4.out.p.1.1 i (by omega), fun i j hi hj hji => by
                    by_cases e : j = r
                    · rw [e]; exact S4.out.p.2.2 i (by omega) hi
                    · exact S4.out.p.1.2 i j hi (by omega) hji⟩, S4.out.bel, S4.out.glob⟩⟩
    · obtain rfl : r = n := by omega
      have tq : decide (r < r) = false := decide_eq_false (by omega)
      go_wp2
      (try simp only [Act.put, List.setIfInBounds_toArray, List.set_cons_zero, List.set_cons_succ])
      go_loopg [149] r (fun kq v wy => ∃ (d : Nat) (b c : Nat → Nat) (M : Nat → Nat → Nat), d + kq = r ∧ v = .int .i64 (d : Nat) ∧ Aside0 (St w wy base g M0 r m (Up r d 0) b c M))
      case atStart => exact ⟨0, b, c, M, by omega, rfl, ⟨S.out.mt, S.out.eq, S.out.b8, ⟨S.out.p, fun i j hj _ => by omega, fun i hi => by omega⟩, S.out.bel, S.out.glob⟩⟩
      case round =>
        clear S
        obtain ⟨d, b2, c2, M2, hd, rfl, S3⟩ := hrel
        by_cases hdn : d < r
        · have q3 : (0 : Int) ≤ (d : Int) := by omega
          have q4 : (d : Int) < (r : Int) := by omega
          have q5 : (d : Int) < (m : Int) := by omega
          go_wp2
          (try simp only [Act.put, List.setIfInBounds_toArray, List.set_cons_zero, List.set_cons_succ])
          go_loopg [153] d (fun kq v wy => ∃ (t : Nat) (b c : Nat → Nat) (M : Nat → Nat → Nat), t + kq = d ∧ v = .int .i64 (t : Nat) ∧ Aside0 (St w wy base g M0 r m (Up r d t) b c M))
          case atStart => exact ⟨0, b2, c2, M2, by omega, rfl, S3⟩
          case round =>
            clear S3
            obtain ⟨t, b3, c3, M3, ht, rfl, S4⟩ := hrel
            by_cases htd : t < d
            · have htn : t < r := by omega
              have d1 := S4.out.mt.top t htn
              have d2 := S4.out.mt.row t d htn (by omega)
              have q1 : (0 : Int) ≤ (t : Int) := by omega
              have q2 : (t : Int) < (r : Int) := by omega
              by_cases hzt : M3 t d = 0
              · have tq : (((M3 t d : Nat) : Int) != 0) = false := by rw [bne_eq_false_iff_eq]; omega
                have HZT := Aside0.mk hzt
                clear hzt
                go_wp2
                go_roundg (d - (t + 1))
                case measure => omega
                case rel => exact ⟨t + 1, b3, c3, M3, by omega, by go_num, ⟨S4.out.mt, S4.out.eq, S4.out.b8, ⟨S4.out.p.1, S4.out.p.2.1, fun i h1 => by
                  by_cases e : i = t
                  · rw [e]; exact HZT.out
                  · exact S4.out.p.2.2 i (by omega)⟩, S4.out.bel, S4.out.glob⟩⟩
              · have tq : (((M3 t d : Nat) : Int) != 0) = true := by rw [bne_iff_ne]; omega
                clear hzt
                have hsc := S4.out.b8 t d
                go_wp2
                (try simp only [Act.put, List.setIfInBounds_toArray, List.set_cons_zero, List.set_cons_succ])
                go_loopg [172] m (fun kq v wz => ∃ u : Nat, u + kq = m ∧ v = .int .i64 (u : Nat) ∧ Aside0 (Mt wz base g b3 c3 (radd M3 t d (M3 t d) u) r m ∧ Below base w wz ∧ Glob wz))
                case atStart => exact ⟨0, by omega, rfl, ⟨S4.out.mt.congr fun i j _ _ => by unfold radd; rw [if_neg (by omega)], S4.out.bel, S4.out.glob⟩⟩
                case round =>
                  obtain ⟨u, hu, rfl, HU⟩ := hrel
                  by_cases hum : u < m
                  · have x1 := HU.out.1.top t htn
                    have x2 := HU.out.1.row t u htn hum
                    unfold radd at x2
                    rw [if_neg (by omega)] at x2
                    have x3 := HU.out.1.rowf t u htn hum
                    have x4 := HU.out.1.top d hdn
                    have x5 := HU.out.1.row d u hdn hum
                    rw [radd_other (by omega)] at x5
                    have d4 := HU.out.2.2
                    have y1 : (0 : Int) ≤ (u : Int) := by omega
                    have y2 : (u : Int) < (m : Int) := by omega
                    have MU := Aside0.mk (Pure.galmul_of (M3 t d) (M3 d u) hsc (S4.out.b8 d u))
                    have XR := Pure.xor_u8 (M3 t u) (gmul (M3 t d) (M3 d u)) (S4.out.b8 _ _) (gmul_lt _ _)
                    have NX : Aside0 (∀ q, Mt ((wr.drewN q).setCell ⟨b3 t, u, none⟩ (.int .u8 (((M3 t u ^^^ gmul (M3 t d) (M3 d u)) : Nat) : Int))) base g b3 c3 (radd M3 t d (M3 t d) (u + 1)) r m ∧ Below base w ((wr.drewN q).setCell ⟨b3 t, u, none⟩ (.int .u8 (((M3 t u ^^^ gmul (M3 t d) (M3 d u)) : Nat) : Int))) ∧ Glob ((wr.drewN q).setCell ⟨b3 t, u, none⟩ (.int .u8 (((M3 t u ^^^ gmul (M3 t d) (M3 d u)) : Nat) : Int)))) := ⟨fun q => ⟨((HU.out.1.drewN q).set t u htn hum _).congr fun i j _ _ => radd_step M3 t d _ u i j, Below.setCell (pw_below_drewN HU.out.2.1 q) (HU.out.1.lo.2 t htn) _, glob_set (Glob.drewN d4 q) (by have := HU.out.1.lo.2 t htn; show 2 ≤ b3 t; omega) _⟩⟩
                    go_upto_region 45 with fail
                    go_region_law (first | (go_simp; go_at_call 42; refine (Qm.reedsolomon_galMultiply.calls _ _ _ _ (by first | exact Glob.drewN d4 _ | exact Glob.drewN (Glob.drewN d4 1) _) MU.out).mono ?_; rintro e w1 ⟨rfl, ⟨⟨q, rfl⟩⟩⟩))
                    all_goals
                      go_wp2
                      go_roundg (m - (u + 1))
                      case measure => omega
                      case rel => exact ⟨u + 1, by omega, by go_num, ⟨NX.out _⟩⟩
                  · obtain rfl : u = m := by omega
                    have tq : decide (u < u) = false := decide_eq_false (by omega)
                    have S9 := Aside0.mk (St.mk (M0 := M0) (P := Up r d (t + 1)) HU.out.1 (S4.out.eq.trans (radd_eq S4.out.b8 htn hdn (by omega) hsc)) (radd_b8 S4.out.b8 _ _ _ _) (radd_up S4.out.b8 hnm htd hdn S4.out.p) HU.out.2.1 HU.out.2.2)
                    go_wp2
                    go_roundg (d - (t + 1))
                    case measure => omega
                    case rel => exact ⟨t + 1, b3, c3, _, by omega, by go_num, S9⟩
            · obtain rfl : t = d := by omega
              have tq : decide (t < t) = false := decide_eq_false (by omega)
              go_wp2
              go_roundg (r - (t + 1))
              case measure => omega
              case rel => exact ⟨t + 1, b3, c3, M3, by omega, by go_num, ⟨S4.out.mt, S4.out.eq, S4.out.b8, up_next S4.out.p, S4.out.bel, S4.out.glob⟩⟩
        · obtain rfl : d = r := by omega
          have tq : decide (d < d) = false := decide_eq_false (by omega)
          go_wp2
          go_ret
          unfold GPost
          exact .inl ⟨b2, c2, M2, rfl, ⟨S3.out.mt, S3.out.eq, S3.out.b8, up_unit S3.out.p, S3.out.bel, S3.out.glob⟩⟩
end Go.Proofs.YtpjfokolbgcbhaaDoor.Ge
