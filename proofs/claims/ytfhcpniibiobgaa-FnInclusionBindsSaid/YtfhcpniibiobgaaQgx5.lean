-- Written by wip/tools/myprint.py for this seat (the kit's print with changes); Lean checks it.
import Derived.Test.YtfhcpniibiobgaaQgx0
import Derived.Test.YtfhcpniibiobgaaQgx1
import Derived.Test.YtfhcpniibiobgaaQgx2
import Derived.Test.YtfhcpniibiobgaaQgx3
import Derived.Test.YtfhcpniibiobgaaQgx4
namespace Go.Proofs.Ytfhcpniibiobgaa.Qg
open Go.RowKit Go.Proofs.YtfhcpniibiobgaaW.PrintWords Go.Proofs.YtfhcpniibiobgaaW.PrintLast Go.Proofs.YtfhcpniibiobgaaW.PrintMore
attribute [local go_sem] max2_int min2_int max_two min_two max_three min_three max_four min_four   -- for this text's walks alone
set_option linter.unusedVariables false
set_option linter.unusedSimpArgs false

/-! ### laws_FnVerifyInclusionFar: function 4 -/
mutual
def laws_FnVerifyInclusionFar.j0 : Nat → Int → Int → List Int → List (List Int) → List Int → Bool → Int → Int → Int → Int → Int → Int → Option (Bool)
  | 0, _, _, _, _, _, _, _, _, _, _, _, _ => none
  | k + 1, x1, x2, x3, x4, x5, x29, x176000, x176001, x176002, x176003, x176004, x176005 => if x29 = true then (some true) else ((laws_logSmall.f k x4).bind fun t177 => (if t177 = true then (if (x3.length : Int) = x176001 then (laws_FnVerifyInclusionFar.j1 k x1 x2 x3 x4 x5 (decide ((x3.length : Int) > 5000)) x176000 x176001 x176002 x176003 x176004 x176005) else (laws_FnVerifyInclusionFar.j1 k x1 x2 x3 x4 x5 true x176000 x176001 x176002 x176003 x176004 x176005)) else (laws_FnVerifyInclusionFar.j1 k x1 x2 x3 x4 x5 true x176000 x176001 x176002 x176003 x176004 x176005)))
def laws_FnVerifyInclusionFar.j1 : Nat → Int → Int → List Int → List (List Int) → List Int → Bool → Int → Int → Int → Int → Int → Int → Option (Bool)
  | 0, _, _, _, _, _, _, _, _, _, _, _, _ => none
  | k + 1, x1, x2, x3, x4, x5, x44, x176000, x176001, x176002, x176003, x176004, x176005 => if x44 = true then (some true) else ((impl_VerifyInclusion.f x176000 x176001 x176002 x176003 x176004 x176005 x1 x2 x3 x4 x5).bind fun bt178 => (if x1 ≥ x2 then (laws_FnVerifyInclusionFar.j2 k x1 x2 x3 x4 x5 bt178.1 true x176000 x176001 x176002 x176003 x176004 x176005) else ((spec_PathParts.f k x1 x2).bind fun t182 => (laws_FnVerifyInclusionFar.j2 k x1 x2 x3 x4 x5 bt178.1 ((x4.length : Int) != (t182.length : Int)) x176000 x176001 x176002 x176003 x176004 x176005))))
def laws_FnVerifyInclusionFar.j2 : Nat → Int → Int → List Int → List (List Int) → List Int → Int → Bool → Int → Int → Int → Int → Int → Int → Option (Bool)
  | 0, _, _, _, _, _, _, _, _, _, _, _, _, _ => none
  | k + 1, x1, x2, x3, x4, x5, x13, x66, x176000, x176001, x176002, x176003, x176004, x176005 => if x66 = true then (some (x13 == 2)) else ((spec_Inner.f k x1 x2).bind fun t185 => (if 0 ≤ t185 then (if t185 ≤ (x4.length : Int) then ((spec_Chained.f k x176000 x176001 x176002 x176003 x176004 x176005 x3 (x4.take (t185 : Int).toNat) x1 false).bind fun t190 => ((spec_Chained.f k x176000 x176001 x176002 x176003 x176004 x176005 t190 (x4.drop (t185 : Int).toNat) 18446744073709551615 true).bind fun t197 => (if x13 = 0 then ((spec_SameText.f t197 x5).bind fun t200 => (if t200 = true then (some true) else (if x13 = 1 then ((spec_SameText.f t197 x5).bind fun t201 => (some (!t201))) else (some false)))) else (if x13 = 1 then ((spec_SameText.f t197 x5).bind fun t202 => (some (!t202))) else (some false))))) else (none)) else (none)))
end
def laws_FnVerifyInclusionFar.f (k : Nat) (a0_0 : Int) (a0_1 : Int) (a0_2 : Int) (a0_3 : Int) (a0_4 : Int) (a0_5 : Int) (a1 : Int) (a2 : Int) (l3 : List Int) (l4 : List (List Int)) (l5 : List Int) : Option (Bool) := if (l3.length : Int) > 2147483647 then (laws_FnVerifyInclusionFar.j0 k a1 a2 l3 l4 l5 true a0_0 a0_1 a0_2 a0_3 a0_4 a0_5) else ((laws_zzFits2.f k l4).bind fun t176 => (if t176 = true then (laws_FnVerifyInclusionFar.j0 k a1 a2 l3 l4 l5 (decide ((l5.length : Int) > 2147483647)) a0_0 a0_1 a0_2 a0_3 a0_4 a0_5) else (laws_FnVerifyInclusionFar.j0 k a1 a2 l3 l4 l5 true a0_0 a0_1 a0_2 a0_3 a0_4 a0_5)))
theorem laws_FnVerifyInclusionFar.mono_l : ∀ k, (∀ y0 y1 y2 y3 y4 y5 y6 y7 y8 y9 y10 y11, LeO (laws_FnVerifyInclusionFar.j0 k y0 y1 y2 y3 y4 y5 y6 y7 y8 y9 y10 y11) (laws_FnVerifyInclusionFar.j0 (k + 1) y0 y1 y2 y3 y4 y5 y6 y7 y8 y9 y10 y11)) ∧ (∀ y0 y1 y2 y3 y4 y5 y6 y7 y8 y9 y10 y11, LeO (laws_FnVerifyInclusionFar.j1 k y0 y1 y2 y3 y4 y5 y6 y7 y8 y9 y10 y11) (laws_FnVerifyInclusionFar.j1 (k + 1) y0 y1 y2 y3 y4 y5 y6 y7 y8 y9 y10 y11)) ∧ (∀ y0 y1 y2 y3 y4 y5 y6 y7 y8 y9 y10 y11 y12, LeO (laws_FnVerifyInclusionFar.j2 k y0 y1 y2 y3 y4 y5 y6 y7 y8 y9 y10 y11 y12) (laws_FnVerifyInclusionFar.j2 (k + 1) y0 y1 y2 y3 y4 y5 y6 y7 y8 y9 y10 y11 y12))
  | 0 => ⟨fun _ _ _ _ _ _ _ _ _ _ _ _ r h => by simp [laws_FnVerifyInclusionFar.j0] at h, fun _ _ _ _ _ _ _ _ _ _ _ _ r h => by simp [laws_FnVerifyInclusionFar.j1] at h, fun _ _ _ _ _ _ _ _ _ _ _ _ _ r h => by simp [laws_FnVerifyInclusionFar.j2] at h⟩
  | k + 1 => by
    obtain ⟨ih0, ih1, ih2⟩ := laws_FnVerifyInclusionFar.mono_l k
    refine ⟨?_, ?_, ?_⟩
    · intro y0 y1 y2 y3 y4 y5 y6 y7 y8 y9 y10 y11
      unfold laws_FnVerifyInclusionFar.j0
      repeat' first
      | (with_reducible exact ih0 _ _ _ _ _ _ _ _ _ _ _ _)
      | (with_reducible exact ih1 _ _ _ _ _ _ _ _ _ _ _ _)
      | (with_reducible exact ih2 _ _ _ _ _ _ _ _ _ _ _ _ _)
      | (with_reducible exact laws_logSmall.mono _ _)
      | (with_reducible exact laws_zzFits2.mono _ _)
      | (with_reducible exact spec_Chained.mono _ _ _ _ _ _ _ _ _ _ _)
      | (with_reducible exact spec_Inner.mono _ _ _)
      | (with_reducible exact spec_PathParts.mono _ _ _)
      | (with_reducible exact LeO.refl _)
      | (with_reducible exact LeO.none _)
      | (with_reducible refine LeO.ite ?_ ?_)
      | (with_reducible refine LeO.bind ?_ (fun _ => ?_))
      | exact ih0 _ _ _ _ _ _ _ _ _ _ _ _
      | exact ih1 _ _ _ _ _ _ _ _ _ _ _ _
      | exact ih2 _ _ _ _ _ _ _ _ _ _ _ _ _
      | exact laws_logSmall.mono _ _
      | exact laws_zzFits2.mono _ _
      | exact spec_Chained.mono _ _ _ _ _ _ _ _ _ _ _
      | exact spec_Inner.mono _ _ _
      | exact spec_PathParts.mono _ _ _
      | exact LeO.none _
      | refine LeO.ite ?_ ?_
      | refine LeO.bind ?_ (fun _ => ?_)
    · intro y0 y1 y2 y3 y4 y5 y6 y7 y8 y9 y10 y11
      unfold laws_FnVerifyInclusionFar.j1
      repeat' first
      | (with_reducible exact ih0 _ _ _ _ _ _ _ _ _ _ _ _)
      | (with_reducible exact ih1 _ _ _ _ _ _ _ _ _ _ _ _)
      | (with_reducible exact ih2 _ _ _ _ _ _ _ _ _ _ _ _ _)
      | (with_reducible exact laws_logSmall.mono _ _)
      | (with_reducible exact laws_zzFits2.mono _ _)
      | (with_reducible exact spec_Chained.mono _ _ _ _ _ _ _ _ _ _ _)
      | (with_reducible exact spec_Inner.mono _ _ _)
      | (with_reducible exact spec_PathParts.mono _ _ _)
      | (with_reducible exact LeO.refl _)
      | (with_reducible exact LeO.none _)
      | (with_reducible refine LeO.ite ?_ ?_)
      | (with_reducible refine LeO.bind ?_ (fun _ => ?_))
      | exact ih0 _ _ _ _ _ _ _ _ _ _ _ _
      | exact ih1 _ _ _ _ _ _ _ _ _ _ _ _
      | exact ih2 _ _ _ _ _ _ _ _ _ _ _ _ _
      | exact laws_logSmall.mono _ _
      | exact laws_zzFits2.mono _ _
      | exact spec_Chained.mono _ _ _ _ _ _ _ _ _ _ _
      | exact spec_Inner.mono _ _ _
      | exact spec_PathParts.mono _ _ _
      | exact LeO.none _
      | refine LeO.ite ?_ ?_
      | refine LeO.bind ?_ (fun _ => ?_)
    · intro y0 y1 y2 y3 y4 y5 y6 y7 y8 y9 y10 y11 y12
      unfold laws_FnVerifyInclusionFar.j2
      repeat' first
      | (with_reducible exact ih0 _ _ _ _ _ _ _ _ _ _ _ _)
      | (with_reducible exact ih1 _ _ _ _ _ _ _ _ _ _ _ _)
      | (with_reducible exact ih2 _ _ _ _ _ _ _ _ _ _ _ _ _)
      | (with_reducible exact laws_logSmall.mono _ _)
      | (with_reducible exact laws_zzFits2.mono _ _)
      | (with_reducible exact spec_Chained.mono _ _ _ _ _ _ _ _ _ _ _)
      | (with_reducible exact spec_Inner.mono _ _ _)
      | (with_reducible exact spec_PathParts.mono _ _ _)
      | (with_reducible exact LeO.refl _)
      | (with_reducible exact LeO.none _)
      | (with_reducible refine LeO.ite ?_ ?_)
      | (with_reducible refine LeO.bind ?_ (fun _ => ?_))
      | exact ih0 _ _ _ _ _ _ _ _ _ _ _ _
      | exact ih1 _ _ _ _ _ _ _ _ _ _ _ _
      | exact ih2 _ _ _ _ _ _ _ _ _ _ _ _ _
      | exact laws_logSmall.mono _ _
      | exact laws_zzFits2.mono _ _
      | exact spec_Chained.mono _ _ _ _ _ _ _ _ _ _ _
      | exact spec_Inner.mono _ _ _
      | exact spec_PathParts.mono _ _ _
      | exact LeO.none _
      | refine LeO.ite ?_ ?_
      | refine LeO.bind ?_ (fun _ => ?_)
theorem laws_FnVerifyInclusionFar.mono : ∀ a0 a1 a2 a3 a4 a5 a6 a7 a8 a9 a10 k, LeO (laws_FnVerifyInclusionFar.f k a0 a1 a2 a3 a4 a5 a6 a7 a8 a9 a10) (laws_FnVerifyInclusionFar.f (k + 1) a0 a1 a2 a3 a4 a5 a6 a7 a8 a9 a10) := by
  intro a0 a1 a2 a3 a4 a5 a6 a7 a8 a9 a10 k
  obtain ⟨ih0, ih1, ih2⟩ := laws_FnVerifyInclusionFar.mono_l k
  unfold laws_FnVerifyInclusionFar.f
  repeat' first
      | (with_reducible exact ih0 _ _ _ _ _ _ _ _ _ _ _ _)
      | (with_reducible exact ih1 _ _ _ _ _ _ _ _ _ _ _ _)
      | (with_reducible exact ih2 _ _ _ _ _ _ _ _ _ _ _ _ _)
      | (with_reducible exact laws_logSmall.mono _ _)
      | (with_reducible exact laws_zzFits2.mono _ _)
      | (with_reducible exact spec_Chained.mono _ _ _ _ _ _ _ _ _ _ _)
      | (with_reducible exact spec_Inner.mono _ _ _)
      | (with_reducible exact spec_PathParts.mono _ _ _)
      | (with_reducible exact LeO.refl _)
      | (with_reducible exact LeO.none _)
      | (with_reducible refine LeO.ite ?_ ?_)
      | (with_reducible refine LeO.bind ?_ (fun _ => ?_))
      | exact ih0 _ _ _ _ _ _ _ _ _ _ _ _
      | exact ih1 _ _ _ _ _ _ _ _ _ _ _ _
      | exact ih2 _ _ _ _ _ _ _ _ _ _ _ _ _
      | exact laws_logSmall.mono _ _
      | exact laws_zzFits2.mono _ _
      | exact spec_Chained.mono _ _ _ _ _ _ _ _ _ _ _
      | exact spec_Inner.mono _ _ _
      | exact spec_PathParts.mono _ _ _
      | exact LeO.none _
      | refine LeO.ite ?_ ?_
      | refine LeO.bind ?_ (fun _ => ?_)
def laws_FnVerifyInclusionFar.T9 : Bool × List (List Nat × List Nat) := (true, [([], []), ([], []), ([], []), ([], []), ([], []), ([3, 4], [3, 4]), ([], []), ([1, 2, 5, 6], [1, 2, 5, 6]), ([], []), ([], []), ([8, 9], [8, 9]), ([0, 7, 10, 7], [0, 7, 10]), ([11, 11, 0, 1, 2, 3, 4, 5, 6, 7, 8, 9, 10, 11], [11])])
def laws_FnVerifyInclusionFar.B9 : List Nat := [0, 0, 0, 0, 0, 24, 0, 126, 0, 0, 768, 2047, 4095]
theorem laws_FnVerifyInclusionFar.tab9 : rtab .any (opsOf Try.f4 9) = laws_FnVerifyInclusionFar.T9 := by kernel_rfl
theorem laws_FnVerifyInclusionFar.bits9 : waitsOk laws_FnVerifyInclusionFar.T9.2 laws_FnVerifyInclusionFar.B9 = true := by kernel_rfl
set_option maxHeartbeats 8000000 in
set_option maxRecDepth 100000 in
theorem laws_FnVerifyInclusionFar.calls (k : Nat) (a0_0 : Int) (a0_1 : Int) (a0_2 : Int) (a0_3 : Int) (a0_4 : Int) (a0_5 : Int) (a1 : Int) (a2 : Int) (A3 : Option Addr) (c3 : Nat) (l3 : List Int) (A4 : Option Addr) (c4 : Nat) (l4 : List (List Int)) (A5 : Option Addr) (c5 : Nat) (l5 : List Int) (r : Bool) (w : World) (hr3 : Kd.C (Kd.int .u8) w A3 l3.length l3) (hc3 : l3.length ≤ c3) (hr4 : Kd.C (Kd.slice 5 (Kd.int .u8)) w A4 l4.length l4) (hc4 : l4.length ≤ c4) (hr5 : Kd.C (Kd.int .u8) w A5 l5.length l5) (hc5 : l5.length ≤ c5) (h : laws_FnVerifyInclusionFar.f k a0_0 a0_1 a0_2 a0_3 a0_4 a0_5 a1 a2 l3 l4 l5 = some r) :
    Calls Try.prog 4 #[.agg #[.int .i64 a0_0, .int .i64 a0_1, .int .i64 a0_2, .int .u64 a0_3, .int .u64 a0_4, .int .u64 a0_5], .int .u64 a1, .int .u64 a2, .slice A3 l3.length c3, .slice A4 l4.length c4, .slice A5 l5.length c5] w fun e w' => e = .returned (.bool r) ∧ Below w.heap.size w w' := by
  have hu24 := Try.underlying24
  have HR3 := Aside0.mk hr3
  have HC3 := Aside0.mk hc3
  clear hr3 hc3
  have HR4 := Aside0.mk hr4
  have HC4 := Aside0.mk hc4
  clear hr4 hc4
  have HR5 := Aside0.mk hr5
  have HC5 := Aside0.mk hc5
  clear hr5 hc5
  have HB := Aside0.mk (Below.refl w.heap.size w)
  have H : (if (l3.length : Int) > 2147483647 then (laws_FnVerifyInclusionFar.j0 k a1 a2 l3 l4 l5 true a0_0 a0_1 a0_2 a0_3 a0_4 a0_5) else ((laws_zzFits2.f k l4).bind fun t176 => (if t176 = true then (laws_FnVerifyInclusionFar.j0 k a1 a2 l3 l4 l5 (decide ((l5.length : Int) > 2147483647)) a0_0 a0_1 a0_2 a0_3 a0_4 a0_5) else (laws_FnVerifyInclusionFar.j0 k a1 a2 l3 l4 l5 true a0_0 a0_1 a0_2 a0_3 a0_4 a0_5)))) = some r := h
  clear h
  have HC7 := Aside0.mk H
  clear H
  go_enter Try.func4, Try.ntmps4
  go_upto_region 1 with (first | ((with_reducible refine gate_dst (N := 6) rfl ?_); (try (refine gate_guard (by rfl) ?_; dsimp only)); refine box_event ?hg (N := 6) ?hd (cs := #[.int .i64 a0_0, .int .i64 a0_1, .int .i64 a0_2, .int .u64 a0_3, .int .u64 a0_4, .int .u64 a0_5]) (t := 24) ?hr ?_; (case hd => rfl); (case hg => rfl); (case hr => first | (go_simp; done) | (go_simp; rfl)); intro gb175 hg w8 hbox hb; have n0_ := Aside0.mk (below_step (by repeat (first | (with_reducible first | exact HB.out | apply below_alloc | apply pw_below_drewN | apply below_drew1) | exact HB.out)) hb); have n1_ := Aside0.mk (hbox); have n2_ := Aside0.mk ((by rw [hg]; exact (below_size (by repeat (first | (with_reducible first | exact HB.out | apply below_alloc | apply pw_below_drewN | apply below_drew1) | exact HB.out))) : w.heap.size ≤ gb175)); have n3_ := Aside0.mk ((by rw [hg]; exact (below_size (by repeat (first | (with_reducible first | exact HB.out | apply below_alloc | apply pw_below_drewN | apply below_drew1) | exact HB.out))) : w.heap.size ≤ gb175)); clear HB; have HB := n0_; have BK175 := n1_; have GW175 := n2_; have GE175 := n3_; clear n0_ n1_ n2_ n3_; clear hb hbox hg))
  (try simp only [Act.put, List.setIfInBounds_toArray, List.set_cons_zero, List.set_cons_succ])
  go_cut [29] (fun v29 wc => ∃ (kq : Nat) (x29_6 : Bool), v29 = .bool x29_6 ∧ Aside0 (laws_FnVerifyInclusionFar.j0 kq a1 a2 l3 l4 l5 x29_6 a0_0 a0_1 a0_2 a0_3 a0_4 a0_5 = some r) ∧ Aside0 (kq ≤ k) ∧ Aside0 (wc.heap[gb175]? = some (.cells #[.int .i64 a0_0, .int .i64 a0_1, .int .i64 a0_2, .int .u64 a0_3, .int .u64 a0_4, .int .u64 a0_5] 24 (0, 0))) ∧ Aside0 (Below w.heap.size w wc))
  case first =>
    have H := HC7.out
    clear HC7
    by_cases c9 : (l3.length : Int) > 2147483647
    · rw [if_pos c9] at H
      have c9b0 : decide (2147483647 < (l3.length : Int)) = true := decide_eq_true c9
      have c9b1 : decide (2147483647 < l3.length) = true := decide_eq_true (by omega)
      clear c9
      (first | rw [c9b0] | (simp only [i64_w, i32_w]; rw [c9b0]) | skip)
      have H' := Aside0.mk H
      clear H
      go_wp2
      go_meet
      case rel => exact ⟨_, (true), (by first | rfl | (simp; done) | (simp [*]; done)), H', ⟨by first | omega | exact Nat.le_refl _⟩, ⟨by (with_reducible repeat (first | refine blk_drewN ?_ _ | refine blk_drew ?_ | refine blk_alloc ?_ _)); exact BK175.out⟩, ⟨by repeat (first | (with_reducible first | exact HB.out | apply below_alloc | apply pw_below_drewN | apply below_drew1 | refine below_set ?_ GE175.out) | exact HB.out)⟩⟩
    · rw [if_neg c9] at H
      have c9b0 : decide (2147483647 < (l3.length : Int)) = false := decide_eq_false c9
      have c9b1 : decide (2147483647 < l3.length) = false := decide_eq_false (by omega)
      clear c9
      (first | rw [c9b0] | (simp only [i64_w, i32_w]; rw [c9b0]) | skip)
      replace H := Option.bind_eq_some_iff.mp H
      obtain ⟨t176, A100, H⟩ := H
      replace H : (if t176 = true then (laws_FnVerifyInclusionFar.j0 k a1 a2 l3 l4 l5 (decide ((l5.length : Int) > 2147483647)) a0_0 a0_1 a0_2 a0_3 a0_4 a0_5) else (laws_FnVerifyInclusionFar.j0 k a1 a2 l3 l4 l5 true a0_0 a0_1 a0_2 a0_3 a0_4 a0_5)) = some r := H
      have A10 := Aside0.mk A100
      clear A100
      by_cases c11 : t176 = true
      · subst c11
        have H1 : (laws_FnVerifyInclusionFar.j0 k a1 a2 l3 l4 l5 (decide ((l5.length : Int) > 2147483647)) a0_0 a0_1 a0_2 a0_3 a0_4 a0_5) = some r := by rw [if_pos rfl] at H; exact H
        clear H
        have H := H1
        clear H1
        have H' := Aside0.mk H
        clear H
        go_wp2_with (first | (go_at_call 5; (with_reducible refine (laws_zzFits2.calls k _ _ l4 true _ ?side1 ?side2 A10.out).mono ?_); (case side1 => repeat (first | exact (Kd.C_below HR4.out HB.out) | (with_reducible refine Kd.C_alloc ?_ _) | (with_reducible refine Kd.C_drewN ?_ _) | (with_reducible refine Kd.C_drew ?_))); (case side2 => exact HC4.out); rintro e w' ⟨rfl, ⟨nd, rfl⟩⟩))
        go_meet
        case rel => exact ⟨_, (decide ((l5.length : Int) > 2147483647)), (by first | rfl | (simp; done) | (simp [*]; done)), H', ⟨by first | omega | exact Nat.le_refl _⟩, ⟨by (with_reducible repeat (first | refine blk_drewN ?_ _ | refine blk_drew ?_ | refine blk_alloc ?_ _)); exact BK175.out⟩, ⟨by repeat (first | (with_reducible first | exact HB.out | apply below_alloc | apply pw_below_drewN | apply below_drew1 | refine below_set ?_ GE175.out) | exact HB.out)⟩⟩
      · replace c11 := Bool.eq_false_iff.mpr c11
        subst c11
        have H1 : (laws_FnVerifyInclusionFar.j0 k a1 a2 l3 l4 l5 true a0_0 a0_1 a0_2 a0_3 a0_4 a0_5) = some r := by rw [if_neg (show ¬ (false = true) by decide)] at H; exact H
        clear H
        have H := H1
        clear H1
        have H' := Aside0.mk H
        clear H
        go_wp2_with (first | (go_at_call 5; (with_reducible refine (laws_zzFits2.calls k _ _ l4 false _ ?side1 ?side2 A10.out).mono ?_); (case side1 => repeat (first | exact (Kd.C_below HR4.out HB.out) | (with_reducible refine Kd.C_alloc ?_ _) | (with_reducible refine Kd.C_drewN ?_ _) | (with_reducible refine Kd.C_drew ?_))); (case side2 => exact HC4.out); rintro e w' ⟨rfl, ⟨nd, rfl⟩⟩))
        go_meet
        case rel => exact ⟨_, (true), (by first | rfl | (simp; done) | (simp [*]; done)), H', ⟨by first | omega | exact Nat.le_refl _⟩, ⟨by (with_reducible repeat (first | refine blk_drewN ?_ _ | refine blk_drew ?_ | refine blk_alloc ?_ _)); exact BK175.out⟩, ⟨by repeat (first | (with_reducible first | exact HB.out | apply below_alloc | apply pw_below_drewN | apply below_drew1 | refine below_set ?_ GE175.out) | exact HB.out)⟩⟩
  case rest =>
    clear HC7
    try clear c1
    try clear p2
    try clear c3
    try clear c4
    try clear c5
    try clear c9
    try clear c9b0
    try clear c9b1
    try clear c11
    obtain ⟨kq, x29_6, rfl, HA, HJ6, BK175, HB⟩ := hcut
    cases kq with
    | zero => exact absurd HA.out (by simp [laws_FnVerifyInclusionFar.j0])
    | succ kj6 =>
      have H := HA.out
      clear HA
      simp only [laws_FnVerifyInclusionFar.j0] at H
      by_cases c12 : x29_6 = true
      · subst c12
        have H1 : (some true) = some r := by rw [if_pos rfl] at H; exact H
        clear H
        have H := H1
        clear H1
        obtain rfl := Option.some.inj H
        go_wp2
        go_ret
        first | (exfalso; have e1 := eq_of_beq c36b0; have e2 := eq_of_beq c46b0; omega) | (exact ⟨by first | rfl | (simp [errW_none, errW_some] <;> rfl) | (simp [*, errW_none, errW_some] <;> rfl), by repeat (first | (with_reducible first | exact HB.out | apply below_alloc | apply pw_below_drewN | apply below_drew1 | refine below_set ?_ GE175.out) | exact HB.out)⟩)
      · replace c12 := Bool.eq_false_iff.mpr c12
        subst c12
        have H1 : ((laws_logSmall.f kj6 l4).bind fun t177 => (if t177 = true then (if (l3.length : Int) = a0_1 then (laws_FnVerifyInclusionFar.j1 kj6 a1 a2 l3 l4 l5 (decide ((l3.length : Int) > 5000)) a0_0 a0_1 a0_2 a0_3 a0_4 a0_5) else (laws_FnVerifyInclusionFar.j1 kj6 a1 a2 l3 l4 l5 true a0_0 a0_1 a0_2 a0_3 a0_4 a0_5)) else (laws_FnVerifyInclusionFar.j1 kj6 a1 a2 l3 l4 l5 true a0_0 a0_1 a0_2 a0_3 a0_4 a0_5))) = some r := by rw [if_neg (show ¬ (false = true) by decide)] at H; exact H
        clear H
        have H := H1
        clear H1
        have HC13 := Aside0.mk H
        clear H
        go_upto_region 3 with (fail)
        go_cut [44] (fun v44 wc => ∃ (kq : Nat) (x44_12 : Bool), v44 = .bool x44_12 ∧ Aside0 (laws_FnVerifyInclusionFar.j1 kq a1 a2 l3 l4 l5 x44_12 a0_0 a0_1 a0_2 a0_3 a0_4 a0_5 = some r) ∧ Aside0 (kq ≤ kj6) ∧ Aside0 (wc.heap[gb175]? = some (.cells #[.int .i64 a0_0, .int .i64 a0_1, .int .i64 a0_2, .int .u64 a0_3, .int .u64 a0_4, .int .u64 a0_5] 24 (0, 0))) ∧ Aside0 (Below w.heap.size w wc))
        case first =>
          have H := HC13.out
          clear HC13
          replace H := Option.bind_eq_some_iff.mp H
          obtain ⟨t177, A140, H⟩ := H
          replace H : (if t177 = true then (if (l3.length : Int) = a0_1 then (laws_FnVerifyInclusionFar.j1 kj6 a1 a2 l3 l4 l5 (decide ((l3.length : Int) > 5000)) a0_0 a0_1 a0_2 a0_3 a0_4 a0_5) else (laws_FnVerifyInclusionFar.j1 kj6 a1 a2 l3 l4 l5 true a0_0 a0_1 a0_2 a0_3 a0_4 a0_5)) else (laws_FnVerifyInclusionFar.j1 kj6 a1 a2 l3 l4 l5 true a0_0 a0_1 a0_2 a0_3 a0_4 a0_5)) = some r := H
          have A14 := Aside0.mk A140
          clear A140
          by_cases c15 : t177 = true
          · subst c15
            have H1 : (if (l3.length : Int) = a0_1 then (laws_FnVerifyInclusionFar.j1 kj6 a1 a2 l3 l4 l5 (decide ((l3.length : Int) > 5000)) a0_0 a0_1 a0_2 a0_3 a0_4 a0_5) else (laws_FnVerifyInclusionFar.j1 kj6 a1 a2 l3 l4 l5 true a0_0 a0_1 a0_2 a0_3 a0_4 a0_5)) = some r := by rw [if_pos rfl] at H; exact H
            clear H
            have H := H1
            clear H1
            by_cases c16 : (l3.length : Int) = a0_1
            · rw [if_pos c16] at H
              have c16b0 : ((l3.length : Int) == a0_1) = true := beq_iff_eq.mpr c16
              have c16b1 : ((l3.length : Int) != a0_1) = false := bne_eq_false_iff_eq.mpr c16
              clear c16
              (first | rw [c16b0] | (simp only [i64_w, i32_w]; rw [c16b0]) | skip)
              have H' := Aside0.mk H
              clear H
              go_wp2_with (first | ((with_reducible refine gate_callee (f := 7) rfl ?_); refine goesL_ (some 31) rfl rfl Try.func7 (by kernel_rfl) rfl #[.slice A4 l4.length c4] rfl (by (try simp only [List.map_toArray, List.map_cons, List.map_nil]); first | done | rfl | (simp only [List.length_drop, List.length_take]; rfl)) ?_; (with_reducible refine (laws_logSmall.calls kj6 _ _ l4 true _ ?side1 ?side2 A14.out).mono ?_); (case side1 => repeat (first | exact (Kd.C_below HR4.out HB.out) | (with_reducible refine Kd.C_alloc ?_ _) | (with_reducible refine Kd.C_drewN ?_ _) | (with_reducible refine Kd.C_drew ?_))); (case side2 => exact HC4.out); rintro e w' ⟨rfl, ⟨nd, rfl⟩⟩; refine ⟨_, rfl, ?_⟩; have hcz17_0 : wc.cell? ⟨gb175, 0, none⟩ = some (.int .i64 a0_0) := (blk_cell BK175.out 0).trans rfl; have hcz17_1 : wc.cell? ⟨gb175, 1, none⟩ = some (.int .i64 a0_1) := (blk_cell BK175.out 1).trans rfl; have hcz17_2 : wc.cell? ⟨gb175, 2, none⟩ = some (.int .i64 a0_2) := (blk_cell BK175.out 2).trans rfl; have hcz17_3 : wc.cell? ⟨gb175, 3, none⟩ = some (.int .u64 a0_3) := (blk_cell BK175.out 3).trans rfl; have hcz17_4 : wc.cell? ⟨gb175, 4, none⟩ = some (.int .u64 a0_4) := (blk_cell BK175.out 4).trans rfl; have hcz17_5 : wc.cell? ⟨gb175, 5, none⟩ = some (.int .u64 a0_5) := (blk_cell BK175.out 5).trans rfl; have hfz17_0 := blk_frozen BK175.out 0; have hfz17_1 := blk_frozen BK175.out 1; have hfz17_2 := blk_frozen BK175.out 2; have hfz17_3 := blk_frozen BK175.out 3; have hfz17_4 := blk_frozen BK175.out 4; have hfz17_5 := blk_frozen BK175.out 5))
              go_meet
              case rel => exact ⟨_, (decide ((l3.length : Int) > 5000)), (by first | rfl | (simp; done) | (simp [*]; done)), H', ⟨by have := HJ6.out; first | omega | exact Nat.le_refl _⟩, ⟨by (with_reducible repeat (first | refine blk_drewN ?_ _ | refine blk_drew ?_ | refine blk_alloc ?_ _)); exact BK175.out⟩, ⟨by repeat (first | (with_reducible first | exact HB.out | apply below_alloc | apply pw_below_drewN | apply below_drew1 | refine below_set ?_ GE175.out) | exact HB.out)⟩⟩
            · rw [if_neg c16] at H
              have c16b0 : ((l3.length : Int) == a0_1) = false := beq_eq_false_iff_ne.mpr c16
              have c16b1 : ((l3.length : Int) != a0_1) = true := bne_iff_ne.mpr c16
              (first | rw [c16b0] | (simp only [i64_w, i32_w]; rw [c16b0]) | skip)
              have H' := Aside0.mk H
              clear H
              go_wp2_with (first | ((with_reducible refine gate_callee (f := 7) rfl ?_); refine goesL_ (some 31) rfl rfl Try.func7 (by kernel_rfl) rfl #[.slice A4 l4.length c4] rfl (by (try simp only [List.map_toArray, List.map_cons, List.map_nil]); first | done | rfl | (simp only [List.length_drop, List.length_take]; rfl)) ?_; (with_reducible refine (laws_logSmall.calls kj6 _ _ l4 true _ ?side1 ?side2 A14.out).mono ?_); (case side1 => repeat (first | exact (Kd.C_below HR4.out HB.out) | (with_reducible refine Kd.C_alloc ?_ _) | (with_reducible refine Kd.C_drewN ?_ _) | (with_reducible refine Kd.C_drew ?_))); (case side2 => exact HC4.out); rintro e w' ⟨rfl, ⟨nd, rfl⟩⟩; refine ⟨_, rfl, ?_⟩; have hcz18_0 : wc.cell? ⟨gb175, 0, none⟩ = some (.int .i64 a0_0) := (blk_cell BK175.out 0).trans rfl; have hcz18_1 : wc.cell? ⟨gb175, 1, none⟩ = some (.int .i64 a0_1) := (blk_cell BK175.out 1).trans rfl; have hcz18_2 : wc.cell? ⟨gb175, 2, none⟩ = some (.int .i64 a0_2) := (blk_cell BK175.out 2).trans rfl; have hcz18_3 : wc.cell? ⟨gb175, 3, none⟩ = some (.int .u64 a0_3) := (blk_cell BK175.out 3).trans rfl; have hcz18_4 : wc.cell? ⟨gb175, 4, none⟩ = some (.int .u64 a0_4) := (blk_cell BK175.out 4).trans rfl; have hcz18_5 : wc.cell? ⟨gb175, 5, none⟩ = some (.int .u64 a0_5) := (blk_cell BK175.out 5).trans rfl; have hfz18_0 := blk_frozen BK175.out 0; have hfz18_1 := blk_frozen BK175.out 1; have hfz18_2 := blk_frozen BK175.out 2; have hfz18_3 := blk_frozen BK175.out 3; have hfz18_4 := blk_frozen BK175.out 4; have hfz18_5 := blk_frozen BK175.out 5))
              go_meet
              case rel => exact ⟨_, (true), (by first | rfl | (simp; done) | (simp [*]; done)), H', ⟨by have := HJ6.out; first | omega | exact Nat.le_refl _⟩, ⟨by (with_reducible repeat (first | refine blk_drewN ?_ _ | refine blk_drew ?_ | refine blk_alloc ?_ _)); exact BK175.out⟩, ⟨by repeat (first | (with_reducible first | exact HB.out | apply below_alloc | apply pw_below_drewN | apply below_drew1 | refine below_set ?_ GE175.out) | exact HB.out)⟩⟩
          · replace c15 := Bool.eq_false_iff.mpr c15
            subst c15
            have H1 : (laws_FnVerifyInclusionFar.j1 kj6 a1 a2 l3 l4 l5 true a0_0 a0_1 a0_2 a0_3 a0_4 a0_5) = some r := by rw [if_neg (show ¬ (false = true) by decide)] at H; exact H
            clear H
            have H := H1
            clear H1
            have H' := Aside0.mk H
            clear H
            go_wp2_with (first | ((with_reducible refine gate_callee (f := 7) rfl ?_); refine goesL_ (some 31) rfl rfl Try.func7 (by kernel_rfl) rfl #[.slice A4 l4.length c4] rfl (by (try simp only [List.map_toArray, List.map_cons, List.map_nil]); first | done | rfl | (simp only [List.length_drop, List.length_take]; rfl)) ?_; (with_reducible refine (laws_logSmall.calls kj6 _ _ l4 false _ ?side1 ?side2 A14.out).mono ?_); (case side1 => repeat (first | exact (Kd.C_below HR4.out HB.out) | (with_reducible refine Kd.C_alloc ?_ _) | (with_reducible refine Kd.C_drewN ?_ _) | (with_reducible refine Kd.C_drew ?_))); (case side2 => exact HC4.out); rintro e w' ⟨rfl, ⟨nd, rfl⟩⟩; refine ⟨_, rfl, ?_⟩))
            go_meet
            case rel => exact ⟨_, (true), (by first | rfl | (simp; done) | (simp [*]; done)), H', ⟨by have := HJ6.out; first | omega | exact Nat.le_refl _⟩, ⟨by (with_reducible repeat (first | refine blk_drewN ?_ _ | refine blk_drew ?_ | refine blk_alloc ?_ _)); exact BK175.out⟩, ⟨by repeat (first | (with_reducible first | exact HB.out | apply below_alloc | apply pw_below_drewN | apply below_drew1 | refine below_set ?_ GE175.out) | exact HB.out)⟩⟩
        case rest =>
          clear HC13
          try clear c1
          try clear p2
          try clear c3
          try clear c4
          try clear c5
          try clear c7
          try clear c9
          try clear c9b0
          try clear c9b1
          try clear c11
          try clear c12
          try clear c15
          try clear c16
          try clear c16b0
          try clear c16b1
          try clear hcz17_0
          try clear hcz17_1
          try clear hcz17_2
          try clear hcz17_3
          try clear hcz17_4
          try clear hcz17_5
          try clear hcz18_0
          try clear hcz18_1
          try clear hcz18_2
          try clear hcz18_3
          try clear hcz18_4
          try clear hcz18_5
          try clear hfz17_0
          try clear hfz17_1
          try clear hfz17_2
          try clear hfz17_3
          try clear hfz17_4
          try clear hfz17_5
          try clear hfz18_0
          try clear hfz18_1
          try clear hfz18_2
          try clear hfz18_3
          try clear hfz18_4
          try clear hfz18_5
          try clear p2
          obtain ⟨kq, x44_12, rfl, HA, HJ12, BK175, HB⟩ := hcut
          cases kq with
          | zero => exact absurd HA.out (by simp [laws_FnVerifyInclusionFar.j1])
          | succ kj12 =>
            have H := HA.out
            clear HA
            simp only [laws_FnVerifyInclusionFar.j1] at H
            by_cases c19 : x44_12 = true
            · subst c19
              have H1 : (some true) = some r := by rw [if_pos rfl] at H; exact H
              clear H
              have H := H1
              clear H1
              obtain rfl := Option.some.inj H
              go_wp2
              go_ret
              first | (exfalso; have e1 := eq_of_beq c36b0; have e2 := eq_of_beq c46b0; omega) | (exact ⟨by first | rfl | (simp [errW_none, errW_some] <;> rfl) | (simp [*, errW_none, errW_some] <;> rfl), by repeat (first | (with_reducible first | exact HB.out | apply below_alloc | apply pw_below_drewN | apply below_drew1 | refine below_set ?_ GE175.out) | exact HB.out)⟩)
            · replace c19 := Bool.eq_false_iff.mpr c19
              subst c19
              have H1 : ((impl_VerifyInclusion.f a0_0 a0_1 a0_2 a0_3 a0_4 a0_5 a1 a2 l3 l4 l5).bind fun bt178 => (if a1 ≥ a2 then (laws_FnVerifyInclusionFar.j2 kj12 a1 a2 l3 l4 l5 bt178.1 true a0_0 a0_1 a0_2 a0_3 a0_4 a0_5) else ((spec_PathParts.f kj12 a1 a2).bind fun t182 => (laws_FnVerifyInclusionFar.j2 kj12 a1 a2 l3 l4 l5 bt178.1 ((l4.length : Int) != (t182.length : Int)) a0_0 a0_1 a0_2 a0_3 a0_4 a0_5)))) = some r := by rw [if_neg (show ¬ (false = true) by decide)] at H; exact H
              clear H
              have H := H1
              clear H1
              replace H := Option.bind_eq_some_iff.mp H
              obtain ⟨⟨t178, t179⟩, A200, H⟩ := H
              replace H : (if a1 ≥ a2 then (laws_FnVerifyInclusionFar.j2 kj12 a1 a2 l3 l4 l5 t178 true a0_0 a0_1 a0_2 a0_3 a0_4 a0_5) else ((spec_PathParts.f kj12 a1 a2).bind fun t182 => (laws_FnVerifyInclusionFar.j2 kj12 a1 a2 l3 l4 l5 t178 ((l4.length : Int) != (t182.length : Int)) a0_0 a0_1 a0_2 a0_3 a0_4 a0_5))) = some r := H
              have A20 := Aside0.mk A200
              clear A200
              have HC21 := Aside0.mk H
              clear H
              have hcz22_0 : wc.cell? ⟨gb175, 0, none⟩ = some (.int .i64 a0_0) := (blk_cell BK175.out 0).trans rfl
              have hcz22_1 : wc.cell? ⟨gb175, 1, none⟩ = some (.int .i64 a0_1) := (blk_cell BK175.out 1).trans rfl
              have hcz22_2 : wc.cell? ⟨gb175, 2, none⟩ = some (.int .i64 a0_2) := (blk_cell BK175.out 2).trans rfl
              have hcz22_3 : wc.cell? ⟨gb175, 3, none⟩ = some (.int .u64 a0_3) := (blk_cell BK175.out 3).trans rfl
              have hcz22_4 : wc.cell? ⟨gb175, 4, none⟩ = some (.int .u64 a0_4) := (blk_cell BK175.out 4).trans rfl
              have hcz22_5 : wc.cell? ⟨gb175, 5, none⟩ = some (.int .u64 a0_5) := (blk_cell BK175.out 5).trans rfl
              have hfz22_0 := blk_frozen BK175.out 0
              have hfz22_1 := blk_frozen BK175.out 1
              have hfz22_2 := blk_frozen BK175.out 2
              have hfz22_3 := blk_frozen BK175.out 3
              have hfz22_4 := blk_frozen BK175.out 4
              have hfz22_5 := blk_frozen BK175.out 5
              go_upto_region 6 with (first | ((with_reducible refine gate_callee (f := 8) rfl ?_); refine goesL_ (some 52) rfl rfl Try.func8 (by kernel_rfl) rfl #[.agg #[.int .i64 a0_0, .int .i64 a0_1, .int .i64 a0_2, .int .u64 a0_3, .int .u64 a0_4, .int .u64 a0_5], .int .u64 a1, .int .u64 a2, .slice A3 l3.length c3, .slice A4 l4.length c4, .slice A5 l5.length c5] rfl (by (try simp only [List.map_toArray, List.map_cons, List.map_nil]); first | done | rfl | (simp only [List.length_drop, List.length_take]; rfl)) ?_; (with_reducible refine (impl_VerifyInclusion.calls a0_0 a0_1 a0_2 a0_3 a0_4 a0_5 a1 a2 _ _ l3 _ _ l4 _ _ l5 t178 t179 _ ?side1 ?side2 ?side3 ?side4 ?side5 ?side6 A20.out).mono ?_); (case side1 => repeat (first | exact (Kd.C_below HR3.out HB.out) | (with_reducible refine Kd.C_alloc ?_ _) | (with_reducible refine Kd.C_drewN ?_ _) | (with_reducible refine Kd.C_drew ?_))); (case side2 => exact HC3.out); (case side3 => repeat (first | exact (Kd.C_below HR4.out HB.out) | (with_reducible refine Kd.C_alloc ?_ _) | (with_reducible refine Kd.C_drewN ?_ _) | (with_reducible refine Kd.C_drew ?_))); (case side4 => exact HC4.out); (case side5 => repeat (first | exact (Kd.C_below HR5.out HB.out) | (with_reducible refine Kd.C_alloc ?_ _) | (with_reducible refine Kd.C_drewN ?_ _) | (with_reducible refine Kd.C_drew ?_))); (case side6 => exact HC5.out); rintro e w23 ⟨v180, rfl, ho0, hb⟩; refine ⟨_, rfl, ?_⟩; have n0_ := Aside0.mk (Kd.R_lower ho0 (below_size (by repeat (first | (with_reducible first | exact HB.out | apply below_alloc | apply pw_below_drewN | apply below_drew1 | refine below_set ?_ GE175.out) | exact HB.out)))); have n1_ := Aside0.mk (blk_below (g := gb175) (o := .cells #[.int .i64 a0_0, .int .i64 a0_1, .int .i64 a0_2, .int .u64 a0_3, .int .u64 a0_4, .int .u64 a0_5] 24 (0, 0)) (by (with_reducible repeat (first | refine blk_drewN ?_ _ | refine blk_drew ?_ | refine blk_alloc ?_ _)); exact BK175.out) hb); have n2_ := Aside0.mk (below_step (by repeat (first | (with_reducible first | exact HB.out | apply below_alloc | apply pw_below_drewN | apply below_drew1 | refine below_set ?_ GE175.out) | exact HB.out)) hb); clear BK175; clear HB; have HO181 := n0_; have BK175 := n1_; have HB := n2_; clear n0_ n1_ n2_; (try clear hb); (try clear hb2); (try clear hk); (try clear hi); (try clear ho0)))
              (try simp only [Act.put, List.setIfInBounds_toArray, List.set_cons_zero, List.set_cons_succ])
              go_cut [66] (fun v66 wc => ∃ (kq : Nat) (x66_20 : Bool), v66 = .bool x66_20 ∧ Aside0 (laws_FnVerifyInclusionFar.j2 kq a1 a2 l3 l4 l5 t178 x66_20 a0_0 a0_1 a0_2 a0_3 a0_4 a0_5 = some r) ∧ Aside0 (kq ≤ kj12) ∧ Aside0 (wc.heap[gb175]? = some (.cells #[.int .i64 a0_0, .int .i64 a0_1, .int .i64 a0_2, .int .u64 a0_3, .int .u64 a0_4, .int .u64 a0_5] 24 (0, 0))) ∧ Aside0 (Below w.heap.size w wc))
              case first =>
                have H := HC21.out
                clear HC21
                by_cases c24 : a1 ≥ a2
                · rw [if_pos c24] at H
                  have c24b0 : decide (a2 ≤ a1) = true := decide_eq_true c24
                  clear c24
                  (first | rw [c24b0] | (simp only [i64_w, i32_w]; rw [c24b0]) | skip)
                  have H' := Aside0.mk H
                  clear H
                  go_wp2
                  go_meet
                  case rel => exact ⟨_, (true), (by first | rfl | (simp; done) | (simp [*]; done)), H', ⟨by have := HJ6.out; have := HJ12.out; first | omega | exact Nat.le_refl _⟩, ⟨by (with_reducible repeat (first | refine blk_drewN ?_ _ | refine blk_drew ?_ | refine blk_alloc ?_ _)); exact BK175.out⟩, ⟨by repeat (first | (with_reducible first | exact HB.out | apply below_alloc | apply pw_below_drewN | apply below_drew1 | refine below_set ?_ GE175.out) | exact HB.out)⟩⟩
                · rw [if_neg c24] at H
                  have c24b0 : decide (a2 ≤ a1) = false := decide_eq_false c24
                  clear c24
                  (first | rw [c24b0] | (simp only [i64_w, i32_w]; rw [c24b0]) | skip)
                  replace H := Option.bind_eq_some_iff.mp H
                  obtain ⟨t182, A250, H⟩ := H
                  replace H : (laws_FnVerifyInclusionFar.j2 kj12 a1 a2 l3 l4 l5 t178 ((l4.length : Int) != (t182.length : Int)) a0_0 a0_1 a0_2 a0_3 a0_4 a0_5) = some r := H
                  have A25 := Aside0.mk A250
                  clear A250
                  have H' := Aside0.mk H
                  clear H
                  go_wp2_with (first | (go_at_call 12; (with_reducible refine (spec_PathParts.calls kj12 a1 a2 t182 _ A25.out).mono ?_); rintro e w26 ⟨v183, rfl, ho0, hb⟩; have n0_ := Aside0.mk (Kd.R_below (by (with_reducible repeat (first | apply Kd.R_alloc | apply Kd.R_drewN | apply Kd.R_drew)); exact HO181.out) hb); have n1_ := Aside0.mk (Kd.R_lower ho0 (below_size (by repeat (first | (with_reducible first | exact HB.out | apply below_alloc | apply pw_below_drewN | apply below_drew1 | refine below_set ?_ GE175.out) | exact HB.out)))); have n2_ := Aside0.mk (blk_below (g := gb175) (o := .cells #[.int .i64 a0_0, .int .i64 a0_1, .int .i64 a0_2, .int .u64 a0_3, .int .u64 a0_4, .int .u64 a0_5] 24 (0, 0)) (by (with_reducible repeat (first | refine blk_drewN ?_ _ | refine blk_drew ?_ | refine blk_alloc ?_ _)); exact BK175.out) hb); have n3_ := Aside0.mk (below_step (by repeat (first | (with_reducible first | exact HB.out | apply below_alloc | apply pw_below_drewN | apply below_drew1 | refine below_set ?_ GE175.out) | exact HB.out)) hb); clear HO181; clear BK175; clear HB; have HO181 := n0_; have HO184 := n1_; have BK175 := n2_; have HB := n3_; clear n0_ n1_ n2_ n3_; (try clear hb); (try clear hb2); (try clear hk); (try clear hi); (try clear ho0); obtain ⟨Ao27, co27, eo27⟩ := Kd.R_slice HO184.out; subst eo27))
                  go_meet
                  case rel => exact ⟨_, (((l4.length : Int) != (t182.length : Int))), (by first | rfl | (simp; done) | (simp [*]; done)), H', ⟨by have := HJ6.out; have := HJ12.out; first | omega | exact Nat.le_refl _⟩, ⟨by (with_reducible repeat (first | refine blk_drewN ?_ _ | refine blk_drew ?_ | refine blk_alloc ?_ _)); exact BK175.out⟩, ⟨by repeat (first | (with_reducible first | exact HB.out | apply below_alloc | apply pw_below_drewN | apply below_drew1 | refine below_set ?_ GE175.out) | exact HB.out)⟩⟩
              case rest =>
                clear HC21
                try clear c1
                try clear c2
                try clear p2
                try clear c3
                try clear c4
                try clear c5
                try clear c7
                try clear c8
                try clear c9
                try clear c9b0
                try clear c9b1
                try clear c11
                try clear c12
                try clear c15
                try clear c16
                try clear c16b0
                try clear c16b1
                try clear c19
                try clear c24
                try clear c24b0
                try clear hcz17_0
                try clear hcz17_1
                try clear hcz17_2
                try clear hcz17_3
                try clear hcz17_4
                try clear hcz17_5
                try clear hcz18_0
                try clear hcz18_1
                try clear hcz18_2
                try clear hcz18_3
                try clear hcz18_4
                try clear hcz18_5
                try clear hcz22_0
                try clear hcz22_1
                try clear hcz22_2
                try clear hcz22_3
                try clear hcz22_4
                try clear hcz22_5
                try clear hfz17_0
                try clear hfz17_1
                try clear hfz17_2
                try clear hfz17_3
                try clear hfz17_4
                try clear hfz17_5
                try clear hfz18_0
                try clear hfz18_1
                try clear hfz18_2
                try clear hfz18_3
                try clear hfz18_4
                try clear hfz18_5
                try clear hfz22_0
                try clear hfz22_1
                try clear hfz22_2
                try clear hfz22_3
                try clear hfz22_4
                try clear hfz22_5
                try clear p2
                obtain ⟨kq, x66_20, rfl, HA, HJ20, BK175, HB⟩ := hcut
                cases kq with
                | zero => exact absurd HA.out (by simp [laws_FnVerifyInclusionFar.j2])
                | succ kj20 =>
                  have H := HA.out
                  clear HA
                  simp only [laws_FnVerifyInclusionFar.j2] at H
                  by_cases c28 : x66_20 = true
                  · subst c28
                    have H1 : (some (t178 == 2)) = some r := by rw [if_pos rfl] at H; exact H
                    clear H
                    have H := H1
                    clear H1
                    obtain rfl := Option.some.inj H
                    go_wp2
                    go_ret
                    first | (exfalso; have e1 := eq_of_beq c36b0; have e2 := eq_of_beq c46b0; omega) | (exact ⟨by first | rfl | (simp [errW_none, errW_some] <;> rfl) | (simp [*, errW_none, errW_some] <;> rfl), by repeat (first | (with_reducible first | exact HB.out | apply below_alloc | apply pw_below_drewN | apply below_drew1 | refine below_set ?_ GE175.out) | exact HB.out)⟩)
                  · replace c28 := Bool.eq_false_iff.mpr c28
                    subst c28
                    have H1 : ((spec_Inner.f kj20 a1 a2).bind fun t185 => (if 0 ≤ t185 then (if t185 ≤ (l4.length : Int) then ((spec_Chained.f kj20 a0_0 a0_1 a0_2 a0_3 a0_4 a0_5 l3 (l4.take (t185 : Int).toNat) a1 false).bind fun t190 => ((spec_Chained.f kj20 a0_0 a0_1 a0_2 a0_3 a0_4 a0_5 t190 (l4.drop (t185 : Int).toNat) 18446744073709551615 true).bind fun t197 => (if t178 = 0 then ((spec_SameText.f t197 l5).bind fun t200 => (if t200 = true then (some true) else (if t178 = 1 then ((spec_SameText.f t197 l5).bind fun t201 => (some (!t201))) else (some false)))) else (if t178 = 1 then ((spec_SameText.f t197 l5).bind fun t202 => (some (!t202))) else (some false))))) else (none)) else (none))) = some r := by rw [if_neg (show ¬ (false = true) by decide)] at H; exact H
                    clear H
                    have H := H1
                    clear H1
                    replace H := Option.bind_eq_some_iff.mp H
                    obtain ⟨t185, A290, H⟩ := H
                    replace H : (if 0 ≤ t185 then (if t185 ≤ (l4.length : Int) then ((spec_Chained.f kj20 a0_0 a0_1 a0_2 a0_3 a0_4 a0_5 l3 (l4.take (t185 : Int).toNat) a1 false).bind fun t190 => ((spec_Chained.f kj20 a0_0 a0_1 a0_2 a0_3 a0_4 a0_5 t190 (l4.drop (t185 : Int).toNat) 18446744073709551615 true).bind fun t197 => (if t178 = 0 then ((spec_SameText.f t197 l5).bind fun t200 => (if t200 = true then (some true) else (if t178 = 1 then ((spec_SameText.f t197 l5).bind fun t201 => (some (!t201))) else (some false)))) else (if t178 = 1 then ((spec_SameText.f t197 l5).bind fun t202 => (some (!t202))) else (some false))))) else (none)) else (none)) = some r := H
                    have A29 := Aside0.mk A290
                    clear A290
                    by_cases c30 : 0 ≤ t185
                    · rw [if_pos c30] at H
                      have c30b0 := eq_true c30
                      have c30b1 : decide (0 ≤ t185) = true := decide_eq_true c30
                      clear c30
                      by_cases c31 : t185 ≤ (l4.length : Int)
                      · rw [if_pos c31] at H
                        have c31b0 := eq_true c31
                        have c31b1 : decide (t185 ≤ (l4.length : Int)) = true := decide_eq_true c31
                        clear c31
                        obtain ⟨y186, hy186⟩ : ∃ y_ : List (List Int), y_ = (l4.take (t185 : Int).toNat) := ⟨_, rfl⟩
                        replace H : ((spec_Chained.f kj20 a0_0 a0_1 a0_2 a0_3 a0_4 a0_5 l3 y186 a1 false).bind fun t190 => ((spec_Chained.f kj20 a0_0 a0_1 a0_2 a0_3 a0_4 a0_5 t190 (l4.drop (t185 : Int).toNat) 18446744073709551615 true).bind fun t197 => (if t178 = 0 then ((spec_SameText.f t197 l5).bind fun t200 => (if t200 = true then (some true) else (if t178 = 1 then ((spec_SameText.f t197 l5).bind fun t201 => (some (!t201))) else (some false)))) else (if t178 = 1 then ((spec_SameText.f t197 l5).bind fun t202 => (some (!t202))) else (some false))))) = some r := by first | (rw [hy186]; with_reducible exact H) | (have H2_ := (Option.bind_some _ _).symm.trans H; rw [hy186]; with_reducible exact H2_) | (have H2_ := (Option.bind_some _ _).symm.trans H; with_reducible exact H2_) | with_reducible exact H | (rw [hy186]; exact H) | exact H
                        have Ny186 := Aside0.mk hy186
                        clear hy186
                        replace H := Option.bind_eq_some_iff.mp H
                        obtain ⟨t190, A320, H⟩ := H
                        replace H : ((spec_Chained.f kj20 a0_0 a0_1 a0_2 a0_3 a0_4 a0_5 t190 (l4.drop (t185 : Int).toNat) 18446744073709551615 true).bind fun t197 => (if t178 = 0 then ((spec_SameText.f t197 l5).bind fun t200 => (if t200 = true then (some true) else (if t178 = 1 then ((spec_SameText.f t197 l5).bind fun t201 => (some (!t201))) else (some false)))) else (if t178 = 1 then ((spec_SameText.f t197 l5).bind fun t202 => (some (!t202))) else (some false)))) = some r := H
                        have A32 := Aside0.mk A320
                        clear A320
                        have c33b0 := eq_true (of_decide_eq_true (by first | (with_reducible assumption) | assumption) : 0 ≤ t185)
                        have c34b0 := eq_true (of_decide_eq_true (by first | (with_reducible assumption) | assumption) : t185 ≤ (l4.length : Int))
                        obtain ⟨y193, hy193⟩ : ∃ y_ : List (List Int), y_ = (l4.drop (t185 : Int).toNat) := ⟨_, rfl⟩
                        replace H : ((spec_Chained.f kj20 a0_0 a0_1 a0_2 a0_3 a0_4 a0_5 t190 y193 18446744073709551615 true).bind fun t197 => (if t178 = 0 then ((spec_SameText.f t197 l5).bind fun t200 => (if t200 = true then (some true) else (if t178 = 1 then ((spec_SameText.f t197 l5).bind fun t201 => (some (!t201))) else (some false)))) else (if t178 = 1 then ((spec_SameText.f t197 l5).bind fun t202 => (some (!t202))) else (some false)))) = some r := by first | (rw [hy193]; with_reducible exact H) | (have H2_ := (Option.bind_some _ _).symm.trans H; rw [hy193]; with_reducible exact H2_) | (have H2_ := (Option.bind_some _ _).symm.trans H; with_reducible exact H2_) | with_reducible exact H | (rw [hy193]; exact H) | exact H
                        have Ny193 := Aside0.mk hy193
                        clear hy193
                        replace H := Option.bind_eq_some_iff.mp H
                        obtain ⟨t197, A350, H⟩ := H
                        replace H : (if t178 = 0 then ((spec_SameText.f t197 l5).bind fun t200 => (if t200 = true then (some true) else (if t178 = 1 then ((spec_SameText.f t197 l5).bind fun t201 => (some (!t201))) else (some false)))) else (if t178 = 1 then ((spec_SameText.f t197 l5).bind fun t202 => (some (!t202))) else (some false))) = some r := H
                        have A35 := Aside0.mk A350
                        clear A350
                        by_cases c36 : t178 = 0
                        · rw [if_pos c36] at H
                          have c36b0 : (t178 == 0) = true := beq_iff_eq.mpr c36
                          have c36b1 : (t178 != 0) = false := bne_eq_false_iff_eq.mpr c36
                          clear c36
                          replace H := Option.bind_eq_some_iff.mp H
                          obtain ⟨t200, A370, H⟩ := H
                          replace H : (if t200 = true then (some true) else (if t178 = 1 then ((spec_SameText.f t197 l5).bind fun t201 => (some (!t201))) else (some false))) = some r := H
                          have A37 := Aside0.mk A370
                          clear A370
                          by_cases c38 : t200 = true
                          · subst c38
                            have H1 : (some true) = some r := by rw [if_pos rfl] at H; exact H
                            clear H
                            have H := H1
                            clear H1
                            obtain rfl := Option.some.inj H
                            try go_wp2_with (first | ((with_reducible refine gate_callee (f := 13) rfl ?_); refine goesL_ (some 71) rfl rfl Try.func13 (by kernel_rfl) rfl #[.int .u64 a1, .int .u64 a2] rfl (by (try simp only [List.map_toArray, List.map_cons, List.map_nil]); first | done | rfl | (simp only [List.length_drop, List.length_take]; rfl)) ?_; (with_reducible refine (spec_Inner.calls kj20 a1 a2 t185 _ A29.out).mono ?_); rintro e w' ⟨rfl, ⟨nd, rfl⟩⟩; refine ⟨_, rfl, ?_⟩))
                            (try (rw [drewN_self wc]; generalize hq_ : World.drewN wc _ = wc; have n0_ : Aside0 (wc.heap[gb175]? = some (.cells #[.int .i64 a0_0, .int .i64 a0_1, .int .i64 a0_2, .int .u64 a0_3, .int .u64 a0_4, .int .u64 a0_5] 24 (0, 0))) := ⟨by rw [← hq_]; exact (by (with_reducible repeat (first | refine blk_drewN ?_ _ | refine blk_drew ?_ | refine blk_alloc ?_ _)); exact BK175.out)⟩; have n1_ : Aside0 (Below w.heap.size w wc) := ⟨by rw [← hq_]; exact (by repeat (first | (with_reducible first | exact HB.out | apply below_alloc | apply pw_below_drewN | apply below_drew1 | refine below_set ?_ GE175.out) | exact HB.out))⟩; clear BK175 HB hq_; have BK175 := n0_; have HB := n1_; clear n0_ n1_))
                            have n0_ := Aside0.mk (blk_drew BK175.out)
                            have n1_ := Aside0.mk (below_drew1 HB.out)
                            clear BK175
                            clear HB
                            have BK175 := n0_
                            have HB := n1_
                            clear n0_ n1_
                            have q40 : (t185 : Int) ≤ ((l4.length : Int) : Int) := of_decide_eq_true (by first | (with_reducible assumption) | assumption)
                            obtain ⟨i040, hi040, _, hsz40, _⟩ := info_parts info25
                            have hroom40 : l4.length ≤ c4 := HC4.out
                            have hC40 : Kd.C (Kd.slice 5 (Kd.int .u8)) _ A4 l4.length l4 := HR4.out
                            have hcut40 := cut_to (P := Try.prog) 26 25 .i64 Try.underlying26 hi040 A4 l4.length c4 t185 (of_decide_eq_true (by first | (with_reducible assumption) | assumption)) q40 hroom40
                            have hr40 := Kd.C_take (m := (t185 : Int).toNat) hC40 (by omega)
                            have hy40 : y186.length = (t185 : Int).toNat := (by rw [Ny186.out, List.length_take]; omega)
                            rw [← Ny186.out] at hr40
                            rw [← hy40] at hcut40
                            have HR189 := Aside0.mk hr40
                            have HC189 := Aside0.mk (show y186.length ≤ c4 from by omega)
                            clear hr40 hC40 hroom40 hi040 hsz40
                            have KY40 := Aside0.mk hy40
                            clear hy40
                            replace q40 := eq_true q40
                            have q41 : (t185 : Int) ≤ ((l4.length : Int) : Int) := of_decide_eq_true (by first | (with_reducible assumption) | assumption)
                            obtain ⟨i041, hi041, _, hsz41, _⟩ := info_parts info25
                            have hroom41 : l4.length ≤ c4 := HC4.out
                            have hC41 : Kd.C (Kd.slice 5 (Kd.int .u8)) _ A4 l4.length l4 := HR4.out
                            have q041 : (0 : Int) ≤ (t185 : Int) := of_decide_eq_true (by first | (with_reducible assumption) | assumption)
                            have hcut41 := cut_from (P := Try.prog) 26 25 .i64 Try.underlying26 hi041 1 hsz41 A4 l4.length c4 t185 q041 q41
                            have hr41 := Kd.C_drop (m := (t185 : Int).toNat) (c := c4) hC41 (by omega) hroom41
                            obtain ⟨A41, hA41⟩ : ∃ A1, A1 = (if c4 = (t185 : Int).toNat then A4 else (A4 : Option Addr).map (·.add ((t185 : Int).toNat * 1))) := ⟨_, rfl⟩
                            obtain ⟨c41, hc41⟩ : ∃ c1, c1 = c4 - (t185 : Int).toNat := ⟨_, rfl⟩
                            have hy41 : y193.length = l4.length - (t185 : Int).toNat := (by rw [Ny193.out, List.length_drop] <;> omega)
                            rw [show (l4).drop (t185 : Int).toNat = y193 from Ny193.out.symm] at hr41
                            replace hr41 : Kd.C (Kd.slice 5 (Kd.int .u8)) _ A41 y193.length y193 := (by rw [hA41]; exact hr41)
                            rw [← hy41, ← hA41, ← hc41] at hcut41
                            have HR196 := Aside0.mk hr41
                            have HC196 := Aside0.mk (show y193.length ≤ c41 from by rw [hy41, hc41]; exact Nat.sub_le_sub_right hroom41 _)
                            clear hr41 hC41 hroom41 hi041 hsz41 hc41
                            have KY41 := Aside0.mk hy41
                            have KA41 := Aside0.mk hA41
                            clear hy41 hA41
                            replace q41 := eq_true q41
                            refine start_ (n := 13) (S := fun w' => w'.cell? ⟨gb175, 0, none⟩ = some (.int .i64 a0_0) ∧ w'.cell? ⟨gb175, 1, none⟩ = some (.int .i64 a0_1) ∧ w'.cell? ⟨gb175, 2, none⟩ = some (.int .i64 a0_2) ∧ w'.cell? ⟨gb175, 3, none⟩ = some (.int .u64 a0_3) ∧ w'.cell? ⟨gb175, 4, none⟩ = some (.int .u64 a0_4) ∧ w'.cell? ⟨gb175, 5, none⟩ = some (.int .u64 a0_5)) (ds := []) #[false, false, false, false, false, false, false, false, false, false, false, false, false] (by kernel_rfl) rfl rfl ⟨(blk_cell BK175.out 0).trans rfl, (blk_cell BK175.out 1).trans rfl, (blk_cell BK175.out 2).trans rfl, (blk_cell BK175.out 3).trans rfl, (blk_cell BK175.out 4).trans rfl, (blk_cell BK175.out 5).trans rfl⟩ (fun hHeld => ?_); refine with_tabW laws_FnVerifyInclusionFar.tab9 laws_FnVerifyInclusionFar.bits9 (fun HT_ HW_ => ?_)
                            generalize wc.drew = w39 at BK175 HB HR189 HR196 hHeld ⊢
                            refine pure_ (i := 2) (N := some 74) (v := ?_) (a' := ?_) #[false, false, true, false, false, false, false, false, false, false, false, false, false] rfl rfl (any_of HT_.out (by kernel_rfl)) (fun _ _ _ h => h) (Or.inl ⟨by rfl, ?_⟩) ?_ ?_
                            rotate_left
                            · intro w'
                              go_simp
                              with_reducible rfl
                            rotate_left
                            · simp only [Act.put, List.setIfInBounds_toArray, List.set_cons_zero, List.set_cons_succ, i64_w, i32_w]
                              rfl
                            refine pure_ (i := 3) (N := some 75) (v := ?_) (a' := ?_) #[false, false, true, true, false, false, false, false, false, false, false, false, false] rfl rfl (any_of HT_.out (by kernel_rfl)) (fun _ _ _ h => h) (Or.inl ⟨by rfl, ?_⟩) ?_ ?_
                            rotate_left
                            · intro w'
                              go_simp
                              with_reducible rfl
                            rotate_left
                            · simp only [Act.put, List.setIfInBounds_toArray, List.set_cons_zero, List.set_cons_succ, i64_w, i32_w]
                              rfl
                            refine pure_ (i := 4) (N := some 76) (v := ?_) (a' := ?_) #[false, false, true, true, true, false, false, false, false, false, false, false, false] rfl rfl (any_of HT_.out (by kernel_rfl)) (fun _ _ _ h => h) (Or.inl ⟨by rfl, ?_⟩) ?_ ?_
                            rotate_left
                            · intro w'
                              go_simp
                              with_reducible rfl
                            rotate_left
                            · simp only [Act.put, List.setIfInBounds_toArray, List.set_cons_zero, List.set_cons_succ, i64_w, i32_w]
                              rfl
                            refine pure_ (i := 5) (N := some 77) (v := ?_) (a' := ?_) #[false, false, true, true, true, true, false, false, false, false, false, false, false] rfl rfl (any_of HT_.out (by kernel_rfl)) (fun _ _ _ h => h) (Or.inl ⟨by rfl, ?_⟩) ?_ ?_
                            rotate_left
                            · intro w'
                              go_simp
                              with_reducible rfl
                            rotate_left
                            · simp only [Act.put, List.setIfInBounds_toArray, List.set_cons_zero, List.set_cons_succ, i64_w, i32_w]
                              rfl
                            refine pure_ (i := 6) (N := some 78) (v := ?_) (a' := ?_) #[false, false, true, true, true, true, true, false, false, false, false, false, false] rfl rfl (any_of HT_.out (by kernel_rfl)) (fun _ _ _ h => h) (Or.inl ⟨by rfl, ?_⟩) ?_ ?_
                            rotate_left
                            · intro w'
                              go_simp
                              with_reducible rfl
                            rotate_left
                            · simp only [Act.put, List.setIfInBounds_toArray, List.set_cons_zero, List.set_cons_succ, i64_w, i32_w]
                              rfl
                            refine pure_ (i := 8) (N := some 80) (v := ?_) (a' := ?_) #[false, false, true, true, true, true, true, false, true, false, false, false, false] rfl rfl (any_of HT_.out (by kernel_rfl)) (fun _ _ _ h => h) (Or.inl ⟨by rfl, ?_⟩) ?_ ?_
                            rotate_left
                            · intro w'
                              go_simp
                              with_reducible rfl
                            rotate_left
                            · simp only [Act.put, List.setIfInBounds_toArray, List.set_cons_zero, List.set_cons_succ, i64_w, i32_w]
                              rfl
                            refine pure_ (i := 9) (N := some 81) (v := ?_) (a' := ?_) #[false, false, true, true, true, true, true, false, true, true, false, false, false] rfl rfl (any_of HT_.out (by kernel_rfl)) (fun _ _ _ h => h) (Or.inl ⟨by rfl, ?_⟩) ?_ ?_
                            rotate_left
                            · intro w'
                              go_simp
                              with_reducible rfl
                            rotate_left
                            · simp only [Act.put, List.setIfInBounds_toArray, List.set_cons_zero, List.set_cons_succ, i64_w, i32_w]
                              rfl
                            refine pure_ (i := 10) (N := some 82) (v := ?_) (a' := ?_) #[false, false, true, true, true, true, true, false, true, true, true, false, false] rfl rfl (any_of HT_.out (by kernel_rfl)) (fun _ _ _ h => h) (Or.inl ⟨by rfl, ?_⟩) ?_ ?_
                            rotate_left
                            · intro w'
                              go_simp
                              with_reducible rfl
                            rotate_left
                            · simp only [Act.put, List.setIfInBounds_toArray, List.set_cons_zero, List.set_cons_succ, i64_w, i32_w]
                              rfl
                            refine take_ (i := 0) (N := some 72) (v := ?_) (a' := ?_) #[true, false, true, true, true, true, true, false, true, true, true, false, false] rfl rfl (take_ofW HT_.out HW_.out (by kernel_rfl)) (fun _ _ _ h => h) (Or.inl ⟨by rfl, ?_⟩) hHeld ?_ ?_
                            rotate_left
                            · rintro w' ⟨s0, s1, s2, s3, s4, s5⟩
                              go_simp
                              with_reducible rfl
                            rotate_left
                            · simp only [Act.put, List.setIfInBounds_toArray, List.set_cons_zero, List.set_cons_succ, i64_w, i32_w]
                              rfl
                            refine take_ (i := 1) (N := some 73) (v := ?_) (a' := ?_) #[true, true, true, true, true, true, true, false, true, true, true, false, false] rfl rfl (take_ofW HT_.out HW_.out (by kernel_rfl)) (fun _ _ _ h => h) (Or.inl ⟨by rfl, ?_⟩) hHeld ?_ ?_
                            rotate_left
                            · rintro w' ⟨s0, s1, s2, s3, s4, s5⟩
                              go_simp
                              with_reducible rfl
                            rotate_left
                            · simp only [Act.put, List.setIfInBounds_toArray, List.set_cons_zero, List.set_cons_succ, i64_w, i32_w]
                              rfl
                            refine one_ (i := 7) (N := some 79) #[true, true, true, true, true, true, true, true, true, true, true, false, false] rfl rfl (one_of HT_.out (by kernel_rfl)) (by decide) (fun K hK => ?_)
                            refine goes_ Try.func14 (by kernel_rfl) rfl #[.agg #[.int .i64 a0_0, .int .i64 a0_1, .int .i64 a0_2, .int .u64 a0_3, .int .u64 a0_4, .int .u64 a0_5], .slice A3 l3.length c3, .slice A4 y186.length c4, .int .u64 a1, .bool false] (by rfl) rfl rfl (by (try simp only [List.map_toArray, List.map_cons, List.map_nil]); first | done | rfl | (simp only [List.length_drop, List.length_take]; rfl)) ?_
                            with_reducible refine (spec_Chained.calls kj20 a0_0 a0_1 a0_2 a0_3 a0_4 a0_5 (fun k_ => k_ < w.heap.size) _ _ l3 _ _ y186 a1 false t190 _ ?side1 ?side2 ?side3 A32.out).mono ?_
                            (case side1 => exact Kd.V_mk HC3.out (Kd.F_below (Kd.C_F (Kd.heap_int .u8) HR3.out) (by repeat (first | (with_reducible first | exact HB.out | apply below_alloc | apply pw_below_drewN | apply below_drew1 | refine below_set ?_ GE175.out) | exact HB.out))))
                            (case side2 => repeat (first | exact (Kd.C_below HR189.out HB.out) | (with_reducible refine Kd.C_alloc ?_ _) | (with_reducible refine Kd.C_drewN ?_ _) | (with_reducible refine Kd.C_drew ?_)))
                            (case side3 => exact HC189.out)
                            rintro e w42 ⟨v191, rfl, ho0, hb⟩
                            refine ⟨_, rfl, ?_⟩
                            have n0_ := Aside0.mk (Kd.V_lower (Kd.V_mono (ok' := fun k_ => k_ ≠ gb175) ho0 (fun k_ hk_ => Or.elim hk_ (fun hs_ => fun e_ => Nat.not_le.2 hs_ (by rw [e_]; exact GW175.out)) (fun hn_ => (Kd.freshB (g := gb175) (o := .cells #[.int .i64 a0_0, .int .i64 a0_1, .int .i64 a0_2, .int .u64 a0_3, .int .u64 a0_4, .int .u64 a0_5] 24 (0, 0)) (by (with_reducible repeat (first | refine blk_drewN ?_ _ | refine blk_drew ?_ | refine blk_alloc ?_ _)); exact BK175.out) k_ hn_)))) (below_size (by repeat (first | (with_reducible first | exact HB.out | apply below_alloc | apply pw_below_drewN | apply below_drew1 | refine below_set ?_ GE175.out) | exact HB.out))))
                            have n1_ := Aside0.mk (blk_below (g := gb175) (o := .cells #[.int .i64 a0_0, .int .i64 a0_1, .int .i64 a0_2, .int .u64 a0_3, .int .u64 a0_4, .int .u64 a0_5] 24 (0, 0)) (by (with_reducible repeat (first | refine blk_drewN ?_ _ | refine blk_drew ?_ | refine blk_alloc ?_ _)); exact BK175.out) hb)
                            have n2_ := Aside0.mk (below_step (by repeat (first | (with_reducible first | exact HB.out | apply below_alloc | apply pw_below_drewN | apply below_drew1 | refine below_set ?_ GE175.out) | exact HB.out)) hb)
                            clear BK175
                            clear HB
                            have HO192 := n0_
                            have BK175 := n1_
                            have HB := n2_
                            clear n0_ n1_ n2_
                            (try clear hb)
                            (try clear hb2)
                            (try clear hk)
                            (try clear hi)
                            (try clear ho0)
                            obtain ⟨Ao43, co43, eo43⟩ := Kd.V_slice HO192.out
                            (first | subst eo43 | (injection eo43 with f1_ f2_ f3_; have f4_ := f1_.symm; have f5_ := f3_.symm; clear f1_ f2_ f3_; subst f4_; subst f5_))
                            refine hK.out _ _ ⟨(blk_cell BK175.out 0).trans rfl, (blk_cell BK175.out 1).trans rfl, (blk_cell BK175.out 2).trans rfl, (blk_cell BK175.out 3).trans rfl, (blk_cell BK175.out 4).trans rfl, (blk_cell BK175.out 5).trans rfl⟩ (fun hHeld => ?_)
                            clear hK K
                            refine norm_ (a' := ?_) ?_ ?_
                            rotate_left
                            · show Act.put _ (some 79) _ = _
                              simp only [Act.put, List.setIfInBounds_toArray, List.set_cons_zero, List.set_cons_succ, i64_w, i32_w]
                              rfl
                            refine one_ (i := 11) (N := some 83) #[true, true, true, true, true, true, true, true, true, true, true, true, false] rfl rfl (one_of HT_.out (by kernel_rfl)) (by decide) (fun K hK => ?_)
                            refine goes_ Try.func14 (by kernel_rfl) rfl #[.agg #[.int .i64 a0_0, .int .i64 a0_1, .int .i64 a0_2, .int .u64 a0_3, .int .u64 a0_4, .int .u64 a0_5], .slice Ao43 t190.length co43, .slice A41 y193.length c41, .int .u64 18446744073709551615, .bool true] (by rfl) rfl rfl (by (try simp only [List.map_toArray, List.map_cons, List.map_nil]); first | done | rfl | (simp only [List.length_drop, List.length_take]; rfl)) ?_
                            with_reducible refine (spec_Chained.calls kj20 a0_0 a0_1 a0_2 a0_3 a0_4 a0_5 (fun k_ => k_ ≠ gb175) _ _ t190 _ _ y193 18446744073709551615 true t197 _ ?side1 ?side2 ?side3 A35.out).mono ?_
                            (case side1 => exact HO192.out)
                            (case side2 => repeat (first | exact (Kd.C_below HR196.out HB.out) | (with_reducible refine Kd.C_alloc ?_ _) | (with_reducible refine Kd.C_drewN ?_ _) | (with_reducible refine Kd.C_drew ?_)))
                            (case side3 => exact HC196.out)
                            rintro e w44 ⟨v198, rfl, ho0, hb⟩
                            refine ⟨_, rfl, ?_⟩
                            have n0_ := Aside0.mk (Kd.V_below (by (with_reducible repeat (first | apply Kd.V_alloc | apply Kd.V_drewN | apply Kd.V_drew)); exact HO192.out) hb)
                            have n1_ := Aside0.mk (Kd.V_lower (Kd.V_mono (ok' := fun k_ => k_ ≠ gb175) ho0 (fun k_ hk_ => Or.elim hk_ (fun hs_ => hs_) (fun hn_ => (Kd.freshB (g := gb175) (o := .cells #[.int .i64 a0_0, .int .i64 a0_1, .int .i64 a0_2, .int .u64 a0_3, .int .u64 a0_4, .int .u64 a0_5] 24 (0, 0)) (by (with_reducible repeat (first | refine blk_drewN ?_ _ | refine blk_drew ?_ | refine blk_alloc ?_ _)); exact BK175.out) k_ hn_)))) (below_size (by repeat (first | (with_reducible first | exact HB.out | apply below_alloc | apply pw_below_drewN | apply below_drew1 | refine below_set ?_ GE175.out) | exact HB.out))))
                            have n2_ := Aside0.mk (blk_below (g := gb175) (o := .cells #[.int .i64 a0_0, .int .i64 a0_1, .int .i64 a0_2, .int .u64 a0_3, .int .u64 a0_4, .int .u64 a0_5] 24 (0, 0)) (by (with_reducible repeat (first | refine blk_drewN ?_ _ | refine blk_drew ?_ | refine blk_alloc ?_ _)); exact BK175.out) hb)
                            have n3_ := Aside0.mk (below_step (by repeat (first | (with_reducible first | exact HB.out | apply below_alloc | apply pw_below_drewN | apply below_drew1 | refine below_set ?_ GE175.out) | exact HB.out)) hb)
                            clear HO192
                            clear BK175
                            clear HB
                            have HO192 := n0_
                            have HO199 := n1_
                            have BK175 := n2_
                            have HB := n3_
                            clear n0_ n1_ n2_ n3_
                            (try clear hb)
                            (try clear hb2)
                            (try clear hk)
                            (try clear hi)
                            (try clear ho0)
                            refine hK.out _ _ ⟨(blk_cell BK175.out 0).trans rfl, (blk_cell BK175.out 1).trans rfl, (blk_cell BK175.out 2).trans rfl, (blk_cell BK175.out 3).trans rfl, (blk_cell BK175.out 4).trans rfl, (blk_cell BK175.out 5).trans rfl⟩ (fun hHeld => ?_)
                            clear hK K
                            refine norm_ (a' := ?_) ?_ ?_
                            rotate_left
                            · show Act.put _ (some 83) _ = _
                              simp only [Act.put, List.setIfInBounds_toArray, List.set_cons_zero, List.set_cons_succ, i64_w, i32_w]
                              rfl
                            refine pure_ (i := 12) (N := some 16) (v := ?_) (a' := ?_) #[true, true, true, true, true, true, true, true, true, true, true, true, true] rfl rfl (any_of HT_.out (by kernel_rfl)) (fun _ _ _ h => h) (Or.inl ⟨by rfl, ?_⟩) ?_ ?_
                            rotate_left
                            · intro w'
                              go_simp
                              with_reducible rfl
                            rotate_left
                            · simp only [Act.put, List.setIfInBounds_toArray, List.set_cons_zero, List.set_cons_succ, i64_w, i32_w]
                              rfl
                            refine done_ (done_of HT_.out (by kernel_rfl)) ?_
                            obtain ⟨Ao45, co45, eo45⟩ := Kd.V_slice HO199.out
                            subst eo45
                            try go_wp2_with (first | (go_at_call 10; (with_reducible refine (spec_SameText.calls _ _ t197 _ _ l5 true _ ?side1 ?side2 ?side3 ?side4 A37.out).mono ?_); (case side1 => repeat (first | exact (Kd.V_reads' HO199.out).2.2 | (with_reducible refine Kd.C_alloc ?_ _) | (with_reducible refine Kd.C_drewN ?_ _) | (with_reducible refine Kd.C_drew ?_))); (case side2 => exact (Kd.V_reads' HO199.out).2.1); (case side3 => repeat (first | exact (Kd.C_below HR5.out HB.out) | (with_reducible refine Kd.C_alloc ?_ _) | (with_reducible refine Kd.C_drewN ?_ _) | (with_reducible refine Kd.C_drew ?_))); (case side4 => exact HC5.out); rintro e w' ⟨rfl, ⟨nd, rfl⟩⟩))
                            go_ret
                            first | (exfalso; have e1 := eq_of_beq c36b0; have e2 := eq_of_beq c46b0; omega) | (exact ⟨by first | rfl | (simp [errW_none, errW_some] <;> rfl) | (simp [*, errW_none, errW_some] <;> rfl), by repeat (first | (with_reducible first | exact HB.out | apply below_alloc | apply pw_below_drewN | apply below_drew1 | refine below_set ?_ GE175.out) | exact HB.out)⟩)
                          · replace c38 := Bool.eq_false_iff.mpr c38
                            subst c38
                            have H1 : (if t178 = 1 then ((spec_SameText.f t197 l5).bind fun t201 => (some (!t201))) else (some false)) = some r := by rw [if_neg (show ¬ (false = true) by decide)] at H; exact H
                            clear H
                            have H := H1
                            clear H1
                            by_cases c46 : t178 = 1
                            · rw [if_pos c46] at H
                              have c46b0 : (t178 == 1) = true := beq_iff_eq.mpr c46
                              have c46b1 : (t178 != 1) = false := bne_eq_false_iff_eq.mpr c46
                              clear c46
                              replace H := Option.bind_eq_some_iff.mp H
                              obtain ⟨t201, A470, H⟩ := H
                              replace H : (some (!t201)) = some r := H
                              have A47 := Aside0.mk A470
                              clear A470
                              obtain rfl := Option.some.inj H
                              try go_wp2_with (first | ((with_reducible refine gate_callee (f := 13) rfl ?_); refine goesL_ (some 71) rfl rfl Try.func13 (by kernel_rfl) rfl #[.int .u64 a1, .int .u64 a2] rfl (by (try simp only [List.map_toArray, List.map_cons, List.map_nil]); first | done | rfl | (simp only [List.length_drop, List.length_take]; rfl)) ?_; (with_reducible refine (spec_Inner.calls kj20 a1 a2 t185 _ A29.out).mono ?_); rintro e w' ⟨rfl, ⟨nd, rfl⟩⟩; refine ⟨_, rfl, ?_⟩))
                              (try (rw [drewN_self wc]; generalize hq_ : World.drewN wc _ = wc; have n0_ : Aside0 (wc.heap[gb175]? = some (.cells #[.int .i64 a0_0, .int .i64 a0_1, .int .i64 a0_2, .int .u64 a0_3, .int .u64 a0_4, .int .u64 a0_5] 24 (0, 0))) := ⟨by rw [← hq_]; exact (by (with_reducible repeat (first | refine blk_drewN ?_ _ | refine blk_drew ?_ | refine blk_alloc ?_ _)); exact BK175.out)⟩; have n1_ : Aside0 (Below w.heap.size w wc) := ⟨by rw [← hq_]; exact (by repeat (first | (with_reducible first | exact HB.out | apply below_alloc | apply pw_below_drewN | apply below_drew1 | refine below_set ?_ GE175.out) | exact HB.out))⟩; clear BK175 HB hq_; have BK175 := n0_; have HB := n1_; clear n0_ n1_))
                              have n0_ := Aside0.mk (blk_drew BK175.out)
                              have n1_ := Aside0.mk (below_drew1 HB.out)
                              clear BK175
                              clear HB
                              have BK175 := n0_
                              have HB := n1_
                              clear n0_ n1_
                              have q49 : (t185 : Int) ≤ ((l4.length : Int) : Int) := of_decide_eq_true (by first | (with_reducible assumption) | assumption)
                              obtain ⟨i049, hi049, _, hsz49, _⟩ := info_parts info25
                              have hroom49 : l4.length ≤ c4 := HC4.out
                              have hC49 : Kd.C (Kd.slice 5 (Kd.int .u8)) _ A4 l4.length l4 := HR4.out
                              have hcut49 := cut_to (P := Try.prog) 26 25 .i64 Try.underlying26 hi049 A4 l4.length c4 t185 (of_decide_eq_true (by first | (with_reducible assumption) | assumption)) q49 hroom49
                              have hr49 := Kd.C_take (m := (t185 : Int).toNat) hC49 (by omega)
                              have hy49 : y186.length = (t185 : Int).toNat := (by rw [Ny186.out, List.length_take]; omega)
                              rw [← Ny186.out] at hr49
                              rw [← hy49] at hcut49
                              have HR189 := Aside0.mk hr49
                              have HC189 := Aside0.mk (show y186.length ≤ c4 from by omega)
                              clear hr49 hC49 hroom49 hi049 hsz49
                              have KY49 := Aside0.mk hy49
                              clear hy49
                              replace q49 := eq_true q49
                              have q50 : (t185 : Int) ≤ ((l4.length : Int) : Int) := of_decide_eq_true (by first | (with_reducible assumption) | assumption)
                              obtain ⟨i050, hi050, _, hsz50, _⟩ := info_parts info25
                              have hroom50 : l4.length ≤ c4 := HC4.out
                              have hC50 : Kd.C (Kd.slice 5 (Kd.int .u8)) _ A4 l4.length l4 := HR4.out
                              have q050 : (0 : Int) ≤ (t185 : Int) := of_decide_eq_true (by first | (with_reducible assumption) | assumption)
                              have hcut50 := cut_from (P := Try.prog) 26 25 .i64 Try.underlying26 hi050 1 hsz50 A4 l4.length c4 t185 q050 q50
                              have hr50 := Kd.C_drop (m := (t185 : Int).toNat) (c := c4) hC50 (by omega) hroom50
                              obtain ⟨A50, hA50⟩ : ∃ A1, A1 = (if c4 = (t185 : Int).toNat then A4 else (A4 : Option Addr).map (·.add ((t185 : Int).toNat * 1))) := ⟨_, rfl⟩
                              obtain ⟨c50, hc50⟩ : ∃ c1, c1 = c4 - (t185 : Int).toNat := ⟨_, rfl⟩
                              have hy50 : y193.length = l4.length - (t185 : Int).toNat := (by rw [Ny193.out, List.length_drop] <;> omega)
                              rw [show (l4).drop (t185 : Int).toNat = y193 from Ny193.out.symm] at hr50
                              replace hr50 : Kd.C (Kd.slice 5 (Kd.int .u8)) _ A50 y193.length y193 := (by rw [hA50]; exact hr50)
                              rw [← hy50, ← hA50, ← hc50] at hcut50
                              have HR196 := Aside0.mk hr50
                              have HC196 := Aside0.mk (show y193.length ≤ c50 from by rw [hy50, hc50]; exact Nat.sub_le_sub_right hroom50 _)
                              clear hr50 hC50 hroom50 hi050 hsz50 hc50
                              have KY50 := Aside0.mk hy50
                              have KA50 := Aside0.mk hA50
                              clear hy50 hA50
                              replace q50 := eq_true q50
                              refine start_ (n := 13) (S := fun w' => w'.cell? ⟨gb175, 0, none⟩ = some (.int .i64 a0_0) ∧ w'.cell? ⟨gb175, 1, none⟩ = some (.int .i64 a0_1) ∧ w'.cell? ⟨gb175, 2, none⟩ = some (.int .i64 a0_2) ∧ w'.cell? ⟨gb175, 3, none⟩ = some (.int .u64 a0_3) ∧ w'.cell? ⟨gb175, 4, none⟩ = some (.int .u64 a0_4) ∧ w'.cell? ⟨gb175, 5, none⟩ = some (.int .u64 a0_5)) (ds := []) #[false, false, false, false, false, false, false, false, false, false, false, false, false] (by kernel_rfl) rfl rfl ⟨(blk_cell BK175.out 0).trans rfl, (blk_cell BK175.out 1).trans rfl, (blk_cell BK175.out 2).trans rfl, (blk_cell BK175.out 3).trans rfl, (blk_cell BK175.out 4).trans rfl, (blk_cell BK175.out 5).trans rfl⟩ (fun hHeld => ?_); refine with_tabW laws_FnVerifyInclusionFar.tab9 laws_FnVerifyInclusionFar.bits9 (fun HT_ HW_ => ?_)
                              generalize wc.drew = w48 at BK175 HB HR189 HR196 hHeld ⊢
                              refine pure_ (i := 2) (N := some 74) (v := ?_) (a' := ?_) #[false, false, true, false, false, false, false, false, false, false, false, false, false] rfl rfl (any_of HT_.out (by kernel_rfl)) (fun _ _ _ h => h) (Or.inl ⟨by rfl, ?_⟩) ?_ ?_
                              rotate_left
                              · intro w'
                                go_simp
                                with_reducible rfl
                              rotate_left
                              · simp only [Act.put, List.setIfInBounds_toArray, List.set_cons_zero, List.set_cons_succ, i64_w, i32_w]
                                rfl
                              refine pure_ (i := 3) (N := some 75) (v := ?_) (a' := ?_) #[false, false, true, true, false, false, false, false, false, false, false, false, false] rfl rfl (any_of HT_.out (by kernel_rfl)) (fun _ _ _ h => h) (Or.inl ⟨by rfl, ?_⟩) ?_ ?_
                              rotate_left
                              · intro w'
                                go_simp
                                with_reducible rfl
                              rotate_left
                              · simp only [Act.put, List.setIfInBounds_toArray, List.set_cons_zero, List.set_cons_succ, i64_w, i32_w]
                                rfl
                              refine pure_ (i := 4) (N := some 76) (v := ?_) (a' := ?_) #[false, false, true, true, true, false, false, false, false, false, false, false, false] rfl rfl (any_of HT_.out (by kernel_rfl)) (fun _ _ _ h => h) (Or.inl ⟨by rfl, ?_⟩) ?_ ?_
                              rotate_left
                              · intro w'
                                go_simp
                                with_reducible rfl
                              rotate_left
                              · simp only [Act.put, List.setIfInBounds_toArray, List.set_cons_zero, List.set_cons_succ, i64_w, i32_w]
                                rfl
                              refine pure_ (i := 5) (N := some 77) (v := ?_) (a' := ?_) #[false, false, true, true, true, true, false, false, false, false, false, false, false] rfl rfl (any_of HT_.out (by kernel_rfl)) (fun _ _ _ h => h) (Or.inl ⟨by rfl, ?_⟩) ?_ ?_
                              rotate_left
                              · intro w'
                                go_simp
                                with_reducible rfl
                              rotate_left
                              · simp only [Act.put, List.setIfInBounds_toArray, List.set_cons_zero, List.set_cons_succ, i64_w, i32_w]
                                rfl
                              refine pure_ (i := 6) (N := some 78) (v := ?_) (a' := ?_) #[false, false, true, true, true, true, true, false, false, false, false, false, false] rfl rfl (any_of HT_.out (by kernel_rfl)) (fun _ _ _ h => h) (Or.inl ⟨by rfl, ?_⟩) ?_ ?_
                              rotate_left
                              · intro w'
                                go_simp
                                with_reducible rfl
                              rotate_left
                              · simp only [Act.put, List.setIfInBounds_toArray, List.set_cons_zero, List.set_cons_succ, i64_w, i32_w]
                                rfl
                              refine pure_ (i := 8) (N := some 80) (v := ?_) (a' := ?_) #[false, false, true, true, true, true, true, false, true, false, false, false, false] rfl rfl (any_of HT_.out (by kernel_rfl)) (fun _ _ _ h => h) (Or.inl ⟨by rfl, ?_⟩) ?_ ?_
                              rotate_left
                              · intro w'
                                go_simp
                                with_reducible rfl
                              rotate_left
                              · simp only [Act.put, List.setIfInBounds_toArray, List.set_cons_zero, List.set_cons_succ, i64_w, i32_w]
                                rfl
                              refine pure_ (i := 9) (N := some 81) (v := ?_) (a' := ?_) #[false, false, true, true, true, true, true, false, true, true, false, false, false] rfl rfl (any_of HT_.out (by kernel_rfl)) (fun _ _ _ h => h) (Or.inl ⟨by rfl, ?_⟩) ?_ ?_
                              rotate_left
                              · intro w'
                                go_simp
                                with_reducible rfl
                              rotate_left
                              · simp only [Act.put, List.setIfInBounds_toArray, List.set_cons_zero, List.set_cons_succ, i64_w, i32_w]
                                rfl
                              refine pure_ (i := 10) (N := some 82) (v := ?_) (a' := ?_) #[false, false, true, true, true, true, true, false, true, true, true, false, false] rfl rfl (any_of HT_.out (by kernel_rfl)) (fun _ _ _ h => h) (Or.inl ⟨by rfl, ?_⟩) ?_ ?_
                              rotate_left
                              · intro w'
                                go_simp
                                with_reducible rfl
                              rotate_left
                              · simp only [Act.put, List.setIfInBounds_toArray, List.set_cons_zero, List.set_cons_succ, i64_w, i32_w]
                                rfl
                              refine take_ (i := 0) (N := some 72) (v := ?_) (a' := ?_) #[true, false, true, true, true, true, true, false, true, true, true, false, false] rfl rfl (take_ofW HT_.out HW_.out (by kernel_rfl)) (fun _ _ _ h => h) (Or.inl ⟨by rfl, ?_⟩) hHeld ?_ ?_
                              rotate_left
                              · rintro w' ⟨s0, s1, s2, s3, s4, s5⟩
                                go_simp
                                with_reducible rfl
                              rotate_left
                              · simp only [Act.put, List.setIfInBounds_toArray, List.set_cons_zero, List.set_cons_succ, i64_w, i32_w]
                                rfl
                              refine take_ (i := 1) (N := some 73) (v := ?_) (a' := ?_) #[true, true, true, true, true, true, true, false, true, true, true, false, false] rfl rfl (take_ofW HT_.out HW_.out (by kernel_rfl)) (fun _ _ _ h => h) (Or.inl ⟨by rfl, ?_⟩) hHeld ?_ ?_
                              rotate_left
                              · rintro w' ⟨s0, s1, s2, s3, s4, s5⟩
                                go_simp
                                with_reducible rfl
                              rotate_left
                              · simp only [Act.put, List.setIfInBounds_toArray, List.set_cons_zero, List.set_cons_succ, i64_w, i32_w]
                                rfl
                              refine one_ (i := 7) (N := some 79) #[true, true, true, true, true, true, true, true, true, true, true, false, false] rfl rfl (one_of HT_.out (by kernel_rfl)) (by decide) (fun K hK => ?_)
                              refine goes_ Try.func14 (by kernel_rfl) rfl #[.agg #[.int .i64 a0_0, .int .i64 a0_1, .int .i64 a0_2, .int .u64 a0_3, .int .u64 a0_4, .int .u64 a0_5], .slice A3 l3.length c3, .slice A4 y186.length c4, .int .u64 a1, .bool false] (by rfl) rfl rfl (by (try simp only [List.map_toArray, List.map_cons, List.map_nil]); first | done | rfl | (simp only [List.length_drop, List.length_take]; rfl)) ?_
                              with_reducible refine (spec_Chained.calls kj20 a0_0 a0_1 a0_2 a0_3 a0_4 a0_5 (fun k_ => k_ < w.heap.size) _ _ l3 _ _ y186 a1 false t190 _ ?side1 ?side2 ?side3 A32.out).mono ?_
                              (case side1 => exact Kd.V_mk HC3.out (Kd.F_below (Kd.C_F (Kd.heap_int .u8) HR3.out) (by repeat (first | (with_reducible first | exact HB.out | apply below_alloc | apply pw_below_drewN | apply below_drew1 | refine below_set ?_ GE175.out) | exact HB.out))))
                              (case side2 => repeat (first | exact (Kd.C_below HR189.out HB.out) | (with_reducible refine Kd.C_alloc ?_ _) | (with_reducible refine Kd.C_drewN ?_ _) | (with_reducible refine Kd.C_drew ?_)))
                              (case side3 => exact HC189.out)
                              rintro e w51 ⟨v191, rfl, ho0, hb⟩
                              refine ⟨_, rfl, ?_⟩
                              have n0_ := Aside0.mk (Kd.V_lower (Kd.V_mono (ok' := fun k_ => k_ ≠ gb175) ho0 (fun k_ hk_ => Or.elim hk_ (fun hs_ => fun e_ => Nat.not_le.2 hs_ (by rw [e_]; exact GW175.out)) (fun hn_ => (Kd.freshB (g := gb175) (o := .cells #[.int .i64 a0_0, .int .i64 a0_1, .int .i64 a0_2, .int .u64 a0_3, .int .u64 a0_4, .int .u64 a0_5] 24 (0, 0)) (by (with_reducible repeat (first | refine blk_drewN ?_ _ | refine blk_drew ?_ | refine blk_alloc ?_ _)); exact BK175.out) k_ hn_)))) (below_size (by repeat (first | (with_reducible first | exact HB.out | apply below_alloc | apply pw_below_drewN | apply below_drew1 | refine below_set ?_ GE175.out) | exact HB.out))))
                              have n1_ := Aside0.mk (blk_below (g := gb175) (o := .cells #[.int .i64 a0_0, .int .i64 a0_1, .int .i64 a0_2, .int .u64 a0_3, .int .u64 a0_4, .int .u64 a0_5] 24 (0, 0)) (by (with_reducible repeat (first | refine blk_drewN ?_ _ | refine blk_drew ?_ | refine blk_alloc ?_ _)); exact BK175.out) hb)
                              have n2_ := Aside0.mk (below_step (by repeat (first | (with_reducible first | exact HB.out | apply below_alloc | apply pw_below_drewN | apply below_drew1 | refine below_set ?_ GE175.out) | exact HB.out)) hb)
                              clear BK175
                              clear HB
                              have HO192 := n0_
                              have BK175 := n1_
                              have HB := n2_
                              clear n0_ n1_ n2_
                              (try clear hb)
                              (try clear hb2)
                              (try clear hk)
                              (try clear hi)
                              (try clear ho0)
                              obtain ⟨Ao52, co52, eo52⟩ := Kd.V_slice HO192.out
                              (first | subst eo52 | (injection eo52 with f1_ f2_ f3_; have f4_ := f1_.symm; have f5_ := f3_.symm; clear f1_ f2_ f3_; subst f4_; subst f5_))
                              refine hK.out _ _ ⟨(blk_cell BK175.out 0).trans rfl, (blk_cell BK175.out 1).trans rfl, (blk_cell BK175.out 2).trans rfl, (blk_cell BK175.out 3).trans rfl, (blk_cell BK175.out 4).trans rfl, (blk_cell BK175.out 5).trans rfl⟩ (fun hHeld => ?_)
                              clear hK K
                              refine norm_ (a' := ?_) ?_ ?_
                              rotate_left
                              · show Act.put _ (some 79) _ = _
                                simp only [Act.put, List.setIfInBounds_toArray, List.set_cons_zero, List.set_cons_succ, i64_w, i32_w]
                                rfl
                              refine one_ (i := 11) (N := some 83) #[true, true, true, true, true, true, true, true, true, true, true, true, false] rfl rfl (one_of HT_.out (by kernel_rfl)) (by decide) (fun K hK => ?_)
                              refine goes_ Try.func14 (by kernel_rfl) rfl #[.agg #[.int .i64 a0_0, .int .i64 a0_1, .int .i64 a0_2, .int .u64 a0_3, .int .u64 a0_4, .int .u64 a0_5], .slice Ao52 t190.length co52, .slice A50 y193.length c50, .int .u64 18446744073709551615, .bool true] (by rfl) rfl rfl (by (try simp only [List.map_toArray, List.map_cons, List.map_nil]); first | done | rfl | (simp only [List.length_drop, List.length_take]; rfl)) ?_
                              with_reducible refine (spec_Chained.calls kj20 a0_0 a0_1 a0_2 a0_3 a0_4 a0_5 (fun k_ => k_ ≠ gb175) _ _ t190 _ _ y193 18446744073709551615 true t197 _ ?side1 ?side2 ?side3 A35.out).mono ?_
                              (case side1 => exact HO192.out)
                              (case side2 => repeat (first | exact (Kd.C_below HR196.out HB.out) | (with_reducible refine Kd.C_alloc ?_ _) | (with_reducible refine Kd.C_drewN ?_ _) | (with_reducible refine Kd.C_drew ?_)))
                              (case side3 => exact HC196.out)
                              rintro e w53 ⟨v198, rfl, ho0, hb⟩
                              refine ⟨_, rfl, ?_⟩
                              have n0_ := Aside0.mk (Kd.V_below (by (with_reducible repeat (first | apply Kd.V_alloc | apply Kd.V_drewN | apply Kd.V_drew)); exact HO192.out) hb)
                              have n1_ := Aside0.mk (Kd.V_lower (Kd.V_mono (ok' := fun k_ => k_ ≠ gb175) ho0 (fun k_ hk_ => Or.elim hk_ (fun hs_ => hs_) (fun hn_ => (Kd.freshB (g := gb175) (o := .cells #[.int .i64 a0_0, .int .i64 a0_1, .int .i64 a0_2, .int .u64 a0_3, .int .u64 a0_4, .int .u64 a0_5] 24 (0, 0)) (by (with_reducible repeat (first | refine blk_drewN ?_ _ | refine blk_drew ?_ | refine blk_alloc ?_ _)); exact BK175.out) k_ hn_)))) (below_size (by repeat (first | (with_reducible first | exact HB.out | apply below_alloc | apply pw_below_drewN | apply below_drew1 | refine below_set ?_ GE175.out) | exact HB.out))))
                              have n2_ := Aside0.mk (blk_below (g := gb175) (o := .cells #[.int .i64 a0_0, .int .i64 a0_1, .int .i64 a0_2, .int .u64 a0_3, .int .u64 a0_4, .int .u64 a0_5] 24 (0, 0)) (by (with_reducible repeat (first | refine blk_drewN ?_ _ | refine blk_drew ?_ | refine blk_alloc ?_ _)); exact BK175.out) hb)
                              have n3_ := Aside0.mk (below_step (by repeat (first | (with_reducible first | exact HB.out | apply below_alloc | apply pw_below_drewN | apply below_drew1 | refine below_set ?_ GE175.out) | exact HB.out)) hb)
                              clear HO192
                              clear BK175
                              clear HB
                              have HO192 := n0_
                              have HO199 := n1_
                              have BK175 := n2_
                              have HB := n3_
                              clear n0_ n1_ n2_ n3_
                              (try clear hb)
                              (try clear hb2)
                              (try clear hk)
                              (try clear hi)
                              (try clear ho0)
                              refine hK.out _ _ ⟨(blk_cell BK175.out 0).trans rfl, (blk_cell BK175.out 1).trans rfl, (blk_cell BK175.out 2).trans rfl, (blk_cell BK175.out 3).trans rfl, (blk_cell BK175.out 4).trans rfl, (blk_cell BK175.out 5).trans rfl⟩ (fun hHeld => ?_)
                              clear hK K
                              refine norm_ (a' := ?_) ?_ ?_
                              rotate_left
                              · show Act.put _ (some 83) _ = _
                                simp only [Act.put, List.setIfInBounds_toArray, List.set_cons_zero, List.set_cons_succ, i64_w, i32_w]
                                rfl
                              refine pure_ (i := 12) (N := some 16) (v := ?_) (a' := ?_) #[true, true, true, true, true, true, true, true, true, true, true, true, true] rfl rfl (any_of HT_.out (by kernel_rfl)) (fun _ _ _ h => h) (Or.inl ⟨by rfl, ?_⟩) ?_ ?_
                              rotate_left
                              · intro w'
                                go_simp
                                with_reducible rfl
                              rotate_left
                              · simp only [Act.put, List.setIfInBounds_toArray, List.set_cons_zero, List.set_cons_succ, i64_w, i32_w]
                                rfl
                              refine done_ (done_of HT_.out (by kernel_rfl)) ?_
                              obtain ⟨Ao54, co54, eo54⟩ := Kd.V_slice HO199.out
                              subst eo54
                              try go_wp2_with (first | (go_at_call 10; (with_reducible refine (spec_SameText.calls _ _ t197 _ _ l5 false _ ?side1 ?side2 ?side3 ?side4 A37.out).mono ?_); (case side1 => repeat (first | exact (Kd.V_reads' HO199.out).2.2 | (with_reducible refine Kd.C_alloc ?_ _) | (with_reducible refine Kd.C_drewN ?_ _) | (with_reducible refine Kd.C_drew ?_))); (case side2 => exact (Kd.V_reads' HO199.out).2.1); (case side3 => repeat (first | exact (Kd.C_below HR5.out HB.out) | (with_reducible refine Kd.C_alloc ?_ _) | (with_reducible refine Kd.C_drewN ?_ _) | (with_reducible refine Kd.C_drew ?_))); (case side4 => exact HC5.out); rintro e w' ⟨rfl, ⟨nd, rfl⟩⟩) | (go_at_call 10; (with_reducible refine (spec_SameText.calls _ _ t197 _ _ l5 t201 _ ?side1 ?side2 ?side3 ?side4 A47.out).mono ?_); (case side1 => repeat (first | exact (Kd.V_reads' HO199.out).2.2 | (with_reducible refine Kd.C_alloc ?_ _) | (with_reducible refine Kd.C_drewN ?_ _) | (with_reducible refine Kd.C_drew ?_))); (case side2 => exact (Kd.V_reads' HO199.out).2.1); (case side3 => repeat (first | exact (Kd.C_below HR5.out (by repeat (first | (with_reducible first | exact HB.out | apply below_alloc | apply pw_below_drewN | apply below_drew1 | refine below_set ?_ GE175.out) | exact HB.out))) | (with_reducible refine Kd.C_alloc ?_ _) | (with_reducible refine Kd.C_drewN ?_ _) | (with_reducible refine Kd.C_drew ?_))); (case side4 => exact HC5.out); rintro e w' ⟨rfl, ⟨nd, rfl⟩⟩))
                              go_ret
                              first | (exfalso; have e1 := eq_of_beq c36b0; have e2 := eq_of_beq c46b0; omega) | (exact ⟨by first | rfl | (simp [errW_none, errW_some] <;> rfl) | (simp [*, errW_none, errW_some] <;> rfl), by repeat (first | (with_reducible first | exact HB.out | apply below_alloc | apply pw_below_drewN | apply below_drew1 | refine below_set ?_ GE175.out) | exact HB.out)⟩)
                            · rw [if_neg c46] at H
                              have c46b0 : (t178 == 1) = false := beq_eq_false_iff_ne.mpr c46
                              have c46b1 : (t178 != 1) = true := bne_iff_ne.mpr c46
                              obtain rfl := Option.some.inj H
                              try go_wp2_with (first | ((with_reducible refine gate_callee (f := 13) rfl ?_); refine goesL_ (some 71) rfl rfl Try.func13 (by kernel_rfl) rfl #[.int .u64 a1, .int .u64 a2] rfl (by (try simp only [List.map_toArray, List.map_cons, List.map_nil]); first | done | rfl | (simp only [List.length_drop, List.length_take]; rfl)) ?_; (with_reducible refine (spec_Inner.calls kj20 a1 a2 t185 _ A29.out).mono ?_); rintro e w' ⟨rfl, ⟨nd, rfl⟩⟩; refine ⟨_, rfl, ?_⟩))
                              (try (rw [drewN_self wc]; generalize hq_ : World.drewN wc _ = wc; have n0_ : Aside0 (wc.heap[gb175]? = some (.cells #[.int .i64 a0_0, .int .i64 a0_1, .int .i64 a0_2, .int .u64 a0_3, .int .u64 a0_4, .int .u64 a0_5] 24 (0, 0))) := ⟨by rw [← hq_]; exact (by (with_reducible repeat (first | refine blk_drewN ?_ _ | refine blk_drew ?_ | refine blk_alloc ?_ _)); exact BK175.out)⟩; have n1_ : Aside0 (Below w.heap.size w wc) := ⟨by rw [← hq_]; exact (by repeat (first | (with_reducible first | exact HB.out | apply below_alloc | apply pw_below_drewN | apply below_drew1 | refine below_set ?_ GE175.out) | exact HB.out))⟩; clear BK175 HB hq_; have BK175 := n0_; have HB := n1_; clear n0_ n1_))
                              have n0_ := Aside0.mk (blk_drew BK175.out)
                              have n1_ := Aside0.mk (below_drew1 HB.out)
                              clear BK175
                              clear HB
                              have BK175 := n0_
                              have HB := n1_
                              clear n0_ n1_
                              have q56 : (t185 : Int) ≤ ((l4.length : Int) : Int) := of_decide_eq_true (by first | (with_reducible assumption) | assumption)
                              obtain ⟨i056, hi056, _, hsz56, _⟩ := info_parts info25
                              have hroom56 : l4.length ≤ c4 := HC4.out
                              have hC56 : Kd.C (Kd.slice 5 (Kd.int .u8)) _ A4 l4.length l4 := HR4.out
                              have hcut56 := cut_to (P := Try.prog) 26 25 .i64 Try.underlying26 hi056 A4 l4.length c4 t185 (of_decide_eq_true (by first | (with_reducible assumption) | assumption)) q56 hroom56
                              have hr56 := Kd.C_take (m := (t185 : Int).toNat) hC56 (by omega)
                              have hy56 : y186.length = (t185 : Int).toNat := (by rw [Ny186.out, List.length_take]; omega)
                              rw [← Ny186.out] at hr56
                              rw [← hy56] at hcut56
                              have HR189 := Aside0.mk hr56
                              have HC189 := Aside0.mk (show y186.length ≤ c4 from by omega)
                              clear hr56 hC56 hroom56 hi056 hsz56
                              have KY56 := Aside0.mk hy56
                              clear hy56
                              replace q56 := eq_true q56
                              have q57 : (t185 : Int) ≤ ((l4.length : Int) : Int) := of_decide_eq_true (by first | (with_reducible assumption) | assumption)
                              obtain ⟨i057, hi057, _, hsz57, _⟩ := info_parts info25
                              have hroom57 : l4.length ≤ c4 := HC4.out
                              have hC57 : Kd.C (Kd.slice 5 (Kd.int .u8)) _ A4 l4.length l4 := HR4.out
                              have q057 : (0 : Int) ≤ (t185 : Int) := of_decide_eq_true (by first | (with_reducible assumption) | assumption)
                              have hcut57 := cut_from (P := Try.prog) 26 25 .i64 Try.underlying26 hi057 1 hsz57 A4 l4.length c4 t185 q057 q57
                              have hr57 := Kd.C_drop (m := (t185 : Int).toNat) (c := c4) hC57 (by omega) hroom57
                              obtain ⟨A57, hA57⟩ : ∃ A1, A1 = (if c4 = (t185 : Int).toNat then A4 else (A4 : Option Addr).map (·.add ((t185 : Int).toNat * 1))) := ⟨_, rfl⟩
                              obtain ⟨c57, hc57⟩ : ∃ c1, c1 = c4 - (t185 : Int).toNat := ⟨_, rfl⟩
                              have hy57 : y193.length = l4.length - (t185 : Int).toNat := (by rw [Ny193.out, List.length_drop] <;> omega)
                              rw [show (l4).drop (t185 : Int).toNat = y193 from Ny193.out.symm] at hr57
                              replace hr57 : Kd.C (Kd.slice 5 (Kd.int .u8)) _ A57 y193.length y193 := (by rw [hA57]; exact hr57)
                              rw [← hy57, ← hA57, ← hc57] at hcut57
                              have HR196 := Aside0.mk hr57
                              have HC196 := Aside0.mk (show y193.length ≤ c57 from by rw [hy57, hc57]; exact Nat.sub_le_sub_right hroom57 _)
                              clear hr57 hC57 hroom57 hi057 hsz57 hc57
                              have KY57 := Aside0.mk hy57
                              have KA57 := Aside0.mk hA57
                              clear hy57 hA57
                              replace q57 := eq_true q57
                              refine start_ (n := 13) (S := fun w' => w'.cell? ⟨gb175, 0, none⟩ = some (.int .i64 a0_0) ∧ w'.cell? ⟨gb175, 1, none⟩ = some (.int .i64 a0_1) ∧ w'.cell? ⟨gb175, 2, none⟩ = some (.int .i64 a0_2) ∧ w'.cell? ⟨gb175, 3, none⟩ = some (.int .u64 a0_3) ∧ w'.cell? ⟨gb175, 4, none⟩ = some (.int .u64 a0_4) ∧ w'.cell? ⟨gb175, 5, none⟩ = some (.int .u64 a0_5)) (ds := []) #[false, false, false, false, false, false, false, false, false, false, false, false, false] (by kernel_rfl) rfl rfl ⟨(blk_cell BK175.out 0).trans rfl, (blk_cell BK175.out 1).trans rfl, (blk_cell BK175.out 2).trans rfl, (blk_cell BK175.out 3).trans rfl, (blk_cell BK175.out 4).trans rfl, (blk_cell BK175.out 5).trans rfl⟩ (fun hHeld => ?_); refine with_tabW laws_FnVerifyInclusionFar.tab9 laws_FnVerifyInclusionFar.bits9 (fun HT_ HW_ => ?_)
                              generalize wc.drew = w55 at BK175 HB HR189 HR196 hHeld ⊢
                              refine pure_ (i := 2) (N := some 74) (v := ?_) (a' := ?_) #[false, false, true, false, false, false, false, false, false, false, false, false, false] rfl rfl (any_of HT_.out (by kernel_rfl)) (fun _ _ _ h => h) (Or.inl ⟨by rfl, ?_⟩) ?_ ?_
                              rotate_left
                              · intro w'
                                go_simp
                                with_reducible rfl
                              rotate_left
                              · simp only [Act.put, List.setIfInBounds_toArray, List.set_cons_zero, List.set_cons_succ, i64_w, i32_w]
                                rfl
                              refine pure_ (i := 3) (N := some 75) (v := ?_) (a' := ?_) #[false, false, true, true, false, false, false, false, false, false, false, false, false] rfl rfl (any_of HT_.out (by kernel_rfl)) (fun _ _ _ h => h) (Or.inl ⟨by rfl, ?_⟩) ?_ ?_
                              rotate_left
                              · intro w'
                                go_simp
                                with_reducible rfl
                              rotate_left
                              · simp only [Act.put, List.setIfInBounds_toArray, List.set_cons_zero, List.set_cons_succ, i64_w, i32_w]
                                rfl
                              refine pure_ (i := 4) (N := some 76) (v := ?_) (a' := ?_) #[false, false, true, true, true, false, false, false, false, false, false, false, false] rfl rfl (any_of HT_.out (by kernel_rfl)) (fun _ _ _ h => h) (Or.inl ⟨by rfl, ?_⟩) ?_ ?_
                              rotate_left
                              · intro w'
                                go_simp
                                with_reducible rfl
                              rotate_left
                              · simp only [Act.put, List.setIfInBounds_toArray, List.set_cons_zero, List.set_cons_succ, i64_w, i32_w]
                                rfl
                              refine pure_ (i := 5) (N := some 77) (v := ?_) (a' := ?_) #[false, false, true, true, true, true, false, false, false, false, false, false, false] rfl rfl (any_of HT_.out (by kernel_rfl)) (fun _ _ _ h => h) (Or.inl ⟨by rfl, ?_⟩) ?_ ?_
                              rotate_left
                              · intro w'
                                go_simp
                                with_reducible rfl
                              rotate_left
                              · simp only [Act.put, List.setIfInBounds_toArray, List.set_cons_zero, List.set_cons_succ, i64_w, i32_w]
                                rfl
                              refine pure_ (i := 6) (N := some 78) (v := ?_) (a' := ?_) #[false, false, true, true, true, true, true, false, false, false, false, false, false] rfl rfl (any_of HT_.out (by kernel_rfl)) (fun _ _ _ h => h) (Or.inl ⟨by rfl, ?_⟩) ?_ ?_
                              rotate_left
                              · intro w'
                                go_simp
                                with_reducible rfl
                              rotate_left
                              · simp only [Act.put, List.setIfInBounds_toArray, List.set_cons_zero, List.set_cons_succ, i64_w, i32_w]
                                rfl
                              refine pure_ (i := 8) (N := some 80) (v := ?_) (a' := ?_) #[false, false, true, true, true, true, true, false, true, false, false, false, false] rfl rfl (any_of HT_.out (by kernel_rfl)) (fun _ _ _ h => h) (Or.inl ⟨by rfl, ?_⟩) ?_ ?_
                              rotate_left
                              · intro w'
                                go_simp
                                with_reducible rfl
                              rotate_left
                              · simp only [Act.put, List.setIfInBounds_toArray, List.set_cons_zero, List.set_cons_succ, i64_w, i32_w]
                                rfl
                              refine pure_ (i := 9) (N := some 81) (v := ?_) (a' := ?_) #[false, false, true, true, true, true, true, false, true, true, false, false, false] rfl rfl (any_of HT_.out (by kernel_rfl)) (fun _ _ _ h => h) (Or.inl ⟨by rfl, ?_⟩) ?_ ?_
                              rotate_left
                              · intro w'
                                go_simp
                                with_reducible rfl
                              rotate_left
                              · simp only [Act.put, List.setIfInBounds_toArray, List.set_cons_zero, List.set_cons_succ, i64_w, i32_w]
                                rfl
                              refine pure_ (i := 10) (N := some 82) (v := ?_) (a' := ?_) #[false, false, true, true, true, true, true, false, true, true, true, false, false] rfl rfl (any_of HT_.out (by kernel_rfl)) (fun _ _ _ h => h) (Or.inl ⟨by rfl, ?_⟩) ?_ ?_
                              rotate_left
                              · intro w'
                                go_simp
                                with_reducible rfl
                              rotate_left
                              · simp only [Act.put, List.setIfInBounds_toArray, List.set_cons_zero, List.set_cons_succ, i64_w, i32_w]
                                rfl
                              refine take_ (i := 0) (N := some 72) (v := ?_) (a' := ?_) #[true, false, true, true, true, true, true, false, true, true, true, false, false] rfl rfl (take_ofW HT_.out HW_.out (by kernel_rfl)) (fun _ _ _ h => h) (Or.inl ⟨by rfl, ?_⟩) hHeld ?_ ?_
                              rotate_left
                              · rintro w' ⟨s0, s1, s2, s3, s4, s5⟩
                                go_simp
                                with_reducible rfl
                              rotate_left
                              · simp only [Act.put, List.setIfInBounds_toArray, List.set_cons_zero, List.set_cons_succ, i64_w, i32_w]
                                rfl
                              refine take_ (i := 1) (N := some 73) (v := ?_) (a' := ?_) #[true, true, true, true, true, true, true, false, true, true, true, false, false] rfl rfl (take_ofW HT_.out HW_.out (by kernel_rfl)) (fun _ _ _ h => h) (Or.inl ⟨by rfl, ?_⟩) hHeld ?_ ?_
                              rotate_left
                              · rintro w' ⟨s0, s1, s2, s3, s4, s5⟩
                                go_simp
                                with_reducible rfl
                              rotate_left
                              · simp only [Act.put, List.setIfInBounds_toArray, List.set_cons_zero, List.set_cons_succ, i64_w, i32_w]
                                rfl
                              refine one_ (i := 7) (N := some 79) #[true, true, true, true, true, true, true, true, true, true, true, false, false] rfl rfl (one_of HT_.out (by kernel_rfl)) (by decide) (fun K hK => ?_)
                              refine goes_ Try.func14 (by kernel_rfl) rfl #[.agg #[.int .i64 a0_0, .int .i64 a0_1, .int .i64 a0_2, .int .u64 a0_3, .int .u64 a0_4, .int .u64 a0_5], .slice A3 l3.length c3, .slice A4 y186.length c4, .int .u64 a1, .bool false] (by rfl) rfl rfl (by (try simp only [List.map_toArray, List.map_cons, List.map_nil]); first | done | rfl | (simp only [List.length_drop, List.length_take]; rfl)) ?_
                              with_reducible refine (spec_Chained.calls kj20 a0_0 a0_1 a0_2 a0_3 a0_4 a0_5 (fun k_ => k_ < w.heap.size) _ _ l3 _ _ y186 a1 false t190 _ ?side1 ?side2 ?side3 A32.out).mono ?_
                              (case side1 => exact Kd.V_mk HC3.out (Kd.F_below (Kd.C_F (Kd.heap_int .u8) HR3.out) (by repeat (first | (with_reducible first | exact HB.out | apply below_alloc | apply pw_below_drewN | apply below_drew1 | refine below_set ?_ GE175.out) | exact HB.out))))
                              (case side2 => repeat (first | exact (Kd.C_below HR189.out HB.out) | (with_reducible refine Kd.C_alloc ?_ _) | (with_reducible refine Kd.C_drewN ?_ _) | (with_reducible refine Kd.C_drew ?_)))
                              (case side3 => exact HC189.out)
                              rintro e w58 ⟨v191, rfl, ho0, hb⟩
                              refine ⟨_, rfl, ?_⟩
                              have n0_ := Aside0.mk (Kd.V_lower (Kd.V_mono (ok' := fun k_ => k_ ≠ gb175) ho0 (fun k_ hk_ => Or.elim hk_ (fun hs_ => fun e_ => Nat.not_le.2 hs_ (by rw [e_]; exact GW175.out)) (fun hn_ => (Kd.freshB (g := gb175) (o := .cells #[.int .i64 a0_0, .int .i64 a0_1, .int .i64 a0_2, .int .u64 a0_3, .int .u64 a0_4, .int .u64 a0_5] 24 (0, 0)) (by (with_reducible repeat (first | refine blk_drewN ?_ _ | refine blk_drew ?_ | refine blk_alloc ?_ _)); exact BK175.out) k_ hn_)))) (below_size (by repeat (first | (with_reducible first | exact HB.out | apply below_alloc | apply pw_below_drewN | apply below_drew1 | refine below_set ?_ GE175.out) | exact HB.out))))
                              have n1_ := Aside0.mk (blk_below (g := gb175) (o := .cells #[.int .i64 a0_0, .int .i64 a0_1, .int .i64 a0_2, .int .u64 a0_3, .int .u64 a0_4, .int .u64 a0_5] 24 (0, 0)) (by (with_reducible repeat (first | refine blk_drewN ?_ _ | refine blk_drew ?_ | refine blk_alloc ?_ _)); exact BK175.out) hb)
                              have n2_ := Aside0.mk (below_step (by repeat (first | (with_reducible first | exact HB.out | apply below_alloc | apply pw_below_drewN | apply below_drew1 | refine below_set ?_ GE175.out) | exact HB.out)) hb)
                              clear BK175
                              clear HB
                              have HO192 := n0_
                              have BK175 := n1_
                              have HB := n2_
                              clear n0_ n1_ n2_
                              (try clear hb)
                              (try clear hb2)
                              (try clear hk)
                              (try clear hi)
                              (try clear ho0)
                              obtain ⟨Ao59, co59, eo59⟩ := Kd.V_slice HO192.out
                              (first | subst eo59 | (injection eo59 with f1_ f2_ f3_; have f4_ := f1_.symm; have f5_ := f3_.symm; clear f1_ f2_ f3_; subst f4_; subst f5_))
                              refine hK.out _ _ ⟨(blk_cell BK175.out 0).trans rfl, (blk_cell BK175.out 1).trans rfl, (blk_cell BK175.out 2).trans rfl, (blk_cell BK175.out 3).trans rfl, (blk_cell BK175.out 4).trans rfl, (blk_cell BK175.out 5).trans rfl⟩ (fun hHeld => ?_)
                              clear hK K
                              refine norm_ (a' := ?_) ?_ ?_
                              rotate_left
                              · show Act.put _ (some 79) _ = _
                                simp only [Act.put, List.setIfInBounds_toArray, List.set_cons_zero, List.set_cons_succ, i64_w, i32_w]
                                rfl
                              refine one_ (i := 11) (N := some 83) #[true, true, true, true, true, true, true, true, true, true, true, true, false] rfl rfl (one_of HT_.out (by kernel_rfl)) (by decide) (fun K hK => ?_)
                              refine goes_ Try.func14 (by kernel_rfl) rfl #[.agg #[.int .i64 a0_0, .int .i64 a0_1, .int .i64 a0_2, .int .u64 a0_3, .int .u64 a0_4, .int .u64 a0_5], .slice Ao59 t190.length co59, .slice A57 y193.length c57, .int .u64 18446744073709551615, .bool true] (by rfl) rfl rfl (by (try simp only [List.map_toArray, List.map_cons, List.map_nil]); first | done | rfl | (simp only [List.length_drop, List.length_take]; rfl)) ?_
                              with_reducible refine (spec_Chained.calls kj20 a0_0 a0_1 a0_2 a0_3 a0_4 a0_5 (fun k_ => k_ ≠ gb175) _ _ t190 _ _ y193 18446744073709551615 true t197 _ ?side1 ?side2 ?side3 A35.out).mono ?_
                              (case side1 => exact HO192.out)
                              (case side2 => repeat (first | exact (Kd.C_below HR196.out HB.out) | (with_reducible refine Kd.C_alloc ?_ _) | (with_reducible refine Kd.C_drewN ?_ _) | (with_reducible refine Kd.C_drew ?_)))
                              (case side3 => exact HC196.out)
                              rintro e w60 ⟨v198, rfl, ho0, hb⟩
                              refine ⟨_, rfl, ?_⟩
                              have n0_ := Aside0.mk (Kd.V_below (by (with_reducible repeat (first | apply Kd.V_alloc | apply Kd.V_drewN | apply Kd.V_drew)); exact HO192.out) hb)
                              have n1_ := Aside0.mk (Kd.V_lower (Kd.V_mono (ok' := fun k_ => k_ ≠ gb175) ho0 (fun k_ hk_ => Or.elim hk_ (fun hs_ => hs_) (fun hn_ => (Kd.freshB (g := gb175) (o := .cells #[.int .i64 a0_0, .int .i64 a0_1, .int .i64 a0_2, .int .u64 a0_3, .int .u64 a0_4, .int .u64 a0_5] 24 (0, 0)) (by (with_reducible repeat (first | refine blk_drewN ?_ _ | refine blk_drew ?_ | refine blk_alloc ?_ _)); exact BK175.out) k_ hn_)))) (below_size (by repeat (first | (with_reducible first | exact HB.out | apply below_alloc | apply pw_below_drewN | apply below_drew1 | refine below_set ?_ GE175.out) | exact HB.out))))
                              have n2_ := Aside0.mk (blk_below (g := gb175) (o := .cells #[.int .i64 a0_0, .int .i64 a0_1, .int .i64 a0_2, .int .u64 a0_3, .int .u64 a0_4, .int .u64 a0_5] 24 (0, 0)) (by (with_reducible repeat (first | refine blk_drewN ?_ _ | refine blk_drew ?_ | refine blk_alloc ?_ _)); exact BK175.out) hb)
                              have n3_ := Aside0.mk (below_step (by repeat (first | (with_reducible first | exact HB.out | apply below_alloc | apply pw_below_drewN | apply below_drew1 | refine below_set ?_ GE175.out) | exact HB.out)) hb)
                              clear HO192
                              clear BK175
                              clear HB
                              have HO192 := n0_
                              have HO199 := n1_
                              have BK175 := n2_
                              have HB := n3_
                              clear n0_ n1_ n2_ n3_
                              (try clear hb)
                              (try clear hb2)
                              (try clear hk)
                              (try clear hi)
                              (try clear ho0)
                              refine hK.out _ _ ⟨(blk_cell BK175.out 0).trans rfl, (blk_cell BK175.out 1).trans rfl, (blk_cell BK175.out 2).trans rfl, (blk_cell BK175.out 3).trans rfl, (blk_cell BK175.out 4).trans rfl, (blk_cell BK175.out 5).trans rfl⟩ (fun hHeld => ?_)
                              clear hK K
                              refine norm_ (a' := ?_) ?_ ?_
                              rotate_left
                              · show Act.put _ (some 83) _ = _
                                simp only [Act.put, List.setIfInBounds_toArray, List.set_cons_zero, List.set_cons_succ, i64_w, i32_w]
                                rfl
                              refine pure_ (i := 12) (N := some 16) (v := ?_) (a' := ?_) #[true, true, true, true, true, true, true, true, true, true, true, true, true] rfl rfl (any_of HT_.out (by kernel_rfl)) (fun _ _ _ h => h) (Or.inl ⟨by rfl, ?_⟩) ?_ ?_
                              rotate_left
                              · intro w'
                                go_simp
                                with_reducible rfl
                              rotate_left
                              · simp only [Act.put, List.setIfInBounds_toArray, List.set_cons_zero, List.set_cons_succ, i64_w, i32_w]
                                rfl
                              refine done_ (done_of HT_.out (by kernel_rfl)) ?_
                              obtain ⟨Ao61, co61, eo61⟩ := Kd.V_slice HO199.out
                              subst eo61
                              try go_wp2_with (first | (go_at_call 10; (with_reducible refine (spec_SameText.calls _ _ t197 _ _ l5 false _ ?side1 ?side2 ?side3 ?side4 A37.out).mono ?_); (case side1 => repeat (first | exact (Kd.V_reads' HO199.out).2.2 | (with_reducible refine Kd.C_alloc ?_ _) | (with_reducible refine Kd.C_drewN ?_ _) | (with_reducible refine Kd.C_drew ?_))); (case side2 => exact (Kd.V_reads' HO199.out).2.1); (case side3 => repeat (first | exact (Kd.C_below HR5.out HB.out) | (with_reducible refine Kd.C_alloc ?_ _) | (with_reducible refine Kd.C_drewN ?_ _) | (with_reducible refine Kd.C_drew ?_))); (case side4 => exact HC5.out); rintro e w' ⟨rfl, ⟨nd, rfl⟩⟩))
                              go_ret
                              first | (exfalso; have e1 := eq_of_beq c36b0; have e2 := eq_of_beq c46b0; omega) | (exact ⟨by first | rfl | (simp [errW_none, errW_some] <;> rfl) | (simp [*, errW_none, errW_some] <;> rfl), by repeat (first | (with_reducible first | exact HB.out | apply below_alloc | apply pw_below_drewN | apply below_drew1 | refine below_set ?_ GE175.out) | exact HB.out)⟩)
                        · rw [if_neg c36] at H
                          have c36b0 : (t178 == 0) = false := beq_eq_false_iff_ne.mpr c36
                          have c36b1 : (t178 != 0) = true := bne_iff_ne.mpr c36
                          by_cases c62 : t178 = 1
                          · rw [if_pos c62] at H
                            have c62b0 : (t178 == 1) = true := beq_iff_eq.mpr c62
                            have c62b1 : (t178 != 1) = false := bne_eq_false_iff_eq.mpr c62
                            clear c62
                            replace H := Option.bind_eq_some_iff.mp H
                            obtain ⟨t202, A630, H⟩ := H
                            replace H : (some (!t202)) = some r := H
                            have A63 := Aside0.mk A630
                            clear A630
                            obtain rfl := Option.some.inj H
                            try go_wp2_with (first | ((with_reducible refine gate_callee (f := 13) rfl ?_); refine goesL_ (some 71) rfl rfl Try.func13 (by kernel_rfl) rfl #[.int .u64 a1, .int .u64 a2] rfl (by (try simp only [List.map_toArray, List.map_cons, List.map_nil]); first | done | rfl | (simp only [List.length_drop, List.length_take]; rfl)) ?_; (with_reducible refine (spec_Inner.calls kj20 a1 a2 t185 _ A29.out).mono ?_); rintro e w' ⟨rfl, ⟨nd, rfl⟩⟩; refine ⟨_, rfl, ?_⟩))
                            (try (rw [drewN_self wc]; generalize hq_ : World.drewN wc _ = wc; have n0_ : Aside0 (wc.heap[gb175]? = some (.cells #[.int .i64 a0_0, .int .i64 a0_1, .int .i64 a0_2, .int .u64 a0_3, .int .u64 a0_4, .int .u64 a0_5] 24 (0, 0))) := ⟨by rw [← hq_]; exact (by (with_reducible repeat (first | refine blk_drewN ?_ _ | refine blk_drew ?_ | refine blk_alloc ?_ _)); exact BK175.out)⟩; have n1_ : Aside0 (Below w.heap.size w wc) := ⟨by rw [← hq_]; exact (by repeat (first | (with_reducible first | exact HB.out | apply below_alloc | apply pw_below_drewN | apply below_drew1 | refine below_set ?_ GE175.out) | exact HB.out))⟩; clear BK175 HB hq_; have BK175 := n0_; have HB := n1_; clear n0_ n1_))
                            have n0_ := Aside0.mk (blk_drew BK175.out)
                            have n1_ := Aside0.mk (below_drew1 HB.out)
                            clear BK175
                            clear HB
                            have BK175 := n0_
                            have HB := n1_
                            clear n0_ n1_
                            have q65 : (t185 : Int) ≤ ((l4.length : Int) : Int) := of_decide_eq_true (by first | (with_reducible assumption) | assumption)
                            obtain ⟨i065, hi065, _, hsz65, _⟩ := info_parts info25
                            have hroom65 : l4.length ≤ c4 := HC4.out
                            have hC65 : Kd.C (Kd.slice 5 (Kd.int .u8)) _ A4 l4.length l4 := HR4.out
                            have hcut65 := cut_to (P := Try.prog) 26 25 .i64 Try.underlying26 hi065 A4 l4.length c4 t185 (of_decide_eq_true (by first | (with_reducible assumption) | assumption)) q65 hroom65
                            have hr65 := Kd.C_take (m := (t185 : Int).toNat) hC65 (by omega)
                            have hy65 : y186.length = (t185 : Int).toNat := (by rw [Ny186.out, List.length_take]; omega)
                            rw [← Ny186.out] at hr65
                            rw [← hy65] at hcut65
                            have HR189 := Aside0.mk hr65
                            have HC189 := Aside0.mk (show y186.length ≤ c4 from by omega)
                            clear hr65 hC65 hroom65 hi065 hsz65
                            have KY65 := Aside0.mk hy65
                            clear hy65
                            replace q65 := eq_true q65
                            have q66 : (t185 : Int) ≤ ((l4.length : Int) : Int) := of_decide_eq_true (by first | (with_reducible assumption) | assumption)
                            obtain ⟨i066, hi066, _, hsz66, _⟩ := info_parts info25
                            have hroom66 : l4.length ≤ c4 := HC4.out
                            have hC66 : Kd.C (Kd.slice 5 (Kd.int .u8)) _ A4 l4.length l4 := HR4.out
                            have q066 : (0 : Int) ≤ (t185 : Int) := of_decide_eq_true (by first | (with_reducible assumption) | assumption)
                            have hcut66 := cut_from (P := Try.prog) 26 25 .i64 Try.underlying26 hi066 1 hsz66 A4 l4.length c4 t185 q066 q66
                            have hr66 := Kd.C_drop (m := (t185 : Int).toNat) (c := c4) hC66 (by omega) hroom66
                            obtain ⟨A66, hA66⟩ : ∃ A1, A1 = (if c4 = (t185 : Int).toNat then A4 else (A4 : Option Addr).map (·.add ((t185 : Int).toNat * 1))) := ⟨_, rfl⟩
                            obtain ⟨c66, hc66⟩ : ∃ c1, c1 = c4 - (t185 : Int).toNat := ⟨_, rfl⟩
                            have hy66 : y193.length = l4.length - (t185 : Int).toNat := (by rw [Ny193.out, List.length_drop] <;> omega)
                            rw [show (l4).drop (t185 : Int).toNat = y193 from Ny193.out.symm] at hr66
                            replace hr66 : Kd.C (Kd.slice 5 (Kd.int .u8)) _ A66 y193.length y193 := (by rw [hA66]; exact hr66)
                            rw [← hy66, ← hA66, ← hc66] at hcut66
                            have HR196 := Aside0.mk hr66
                            have HC196 := Aside0.mk (show y193.length ≤ c66 from by rw [hy66, hc66]; exact Nat.sub_le_sub_right hroom66 _)
                            clear hr66 hC66 hroom66 hi066 hsz66 hc66
                            have KY66 := Aside0.mk hy66
                            have KA66 := Aside0.mk hA66
                            clear hy66 hA66
                            replace q66 := eq_true q66
                            refine start_ (n := 13) (S := fun w' => w'.cell? ⟨gb175, 0, none⟩ = some (.int .i64 a0_0) ∧ w'.cell? ⟨gb175, 1, none⟩ = some (.int .i64 a0_1) ∧ w'.cell? ⟨gb175, 2, none⟩ = some (.int .i64 a0_2) ∧ w'.cell? ⟨gb175, 3, none⟩ = some (.int .u64 a0_3) ∧ w'.cell? ⟨gb175, 4, none⟩ = some (.int .u64 a0_4) ∧ w'.cell? ⟨gb175, 5, none⟩ = some (.int .u64 a0_5)) (ds := []) #[false, false, false, false, false, false, false, false, false, false, false, false, false] (by kernel_rfl) rfl rfl ⟨(blk_cell BK175.out 0).trans rfl, (blk_cell BK175.out 1).trans rfl, (blk_cell BK175.out 2).trans rfl, (blk_cell BK175.out 3).trans rfl, (blk_cell BK175.out 4).trans rfl, (blk_cell BK175.out 5).trans rfl⟩ (fun hHeld => ?_); refine with_tabW laws_FnVerifyInclusionFar.tab9 laws_FnVerifyInclusionFar.bits9 (fun HT_ HW_ => ?_)
                            generalize wc.drew = w64 at BK175 HB HR189 HR196 hHeld ⊢
                            refine pure_ (i := 2) (N := some 74) (v := ?_) (a' := ?_) #[false, false, true, false, false, false, false, false, false, false, false, false, false] rfl rfl (any_of HT_.out (by kernel_rfl)) (fun _ _ _ h => h) (Or.inl ⟨by rfl, ?_⟩) ?_ ?_
                            rotate_left
                            · intro w'
                              go_simp
                              with_reducible rfl
                            rotate_left
                            · simp only [Act.put, List.setIfInBounds_toArray, List.set_cons_zero, List.set_cons_succ, i64_w, i32_w]
                              rfl
                            refine pure_ (i := 3) (N := some 75) (v := ?_) (a' := ?_) #[false, false, true, true, false, false, false, false, false, false, false, false, false] rfl rfl (any_of HT_.out (by kernel_rfl)) (fun _ _ _ h => h) (Or.inl ⟨by rfl, ?_⟩) ?_ ?_
                            rotate_left
                            · intro w'
                              go_simp
                              with_reducible rfl
                            rotate_left
                            · simp only [Act.put, List.setIfInBounds_toArray, List.set_cons_zero, List.set_cons_succ, i64_w, i32_w]
                              rfl
                            refine pure_ (i := 4) (N := some 76) (v := ?_) (a' := ?_) #[false, false, true, true, true, false, false, false, false, false, false, false, false] rfl rfl (any_of HT_.out (by kernel_rfl)) (fun _ _ _ h => h) (Or.inl ⟨by rfl, ?_⟩) ?_ ?_
                            rotate_left
                            · intro w'
                              go_simp
                              with_reducible rfl
                            rotate_left
                            · simp only [Act.put, List.setIfInBounds_toArray, List.set_cons_zero, List.set_cons_succ, i64_w, i32_w]
                              rfl
                            refine pure_ (i := 5) (N := some 77) (v := ?_) (a' := ?_) #[false, false, true, true, true, true, false, false, false, false, false, false, false] rfl rfl (any_of HT_.out (by kernel_rfl)) (fun _ _ _ h => h) (Or.inl ⟨by rfl, ?_⟩) ?_ ?_
                            rotate_left
                            · intro w'
                              go_simp
                              with_reducible rfl
                            rotate_left
                            · simp only [Act.put, List.setIfInBounds_toArray, List.set_cons_zero, List.set_cons_succ, i64_w, i32_w]
                              rfl
                            refine pure_ (i := 6) (N := some 78) (v := ?_) (a' := ?_) #[false, false, true, true, true, true, true, false, false, false, false, false, false] rfl rfl (any_of HT_.out (by kernel_rfl)) (fun _ _ _ h => h) (Or.inl ⟨by rfl, ?_⟩) ?_ ?_
                            rotate_left
                            · intro w'
                              go_simp
                              with_reducible rfl
                            rotate_left
                            · simp only [Act.put, List.setIfInBounds_toArray, List.set_cons_zero, List.set_cons_succ, i64_w, i32_w]
                              rfl
                            refine pure_ (i := 8) (N := some 80) (v := ?_) (a' := ?_) #[false, false, true, true, true, true, true, false, true, false, false, false, false] rfl rfl (any_of HT_.out (by kernel_rfl)) (fun _ _ _ h => h) (Or.inl ⟨by rfl, ?_⟩) ?_ ?_
                            rotate_left
                            · intro w'
                              go_simp
                              with_reducible rfl
                            rotate_left
                            · simp only [Act.put, List.setIfInBounds_toArray, List.set_cons_zero, List.set_cons_succ, i64_w, i32_w]
                              rfl
                            refine pure_ (i := 9) (N := some 81) (v := ?_) (a' := ?_) #[false, false, true, true, true, true, true, false, true, true, false, false, false] rfl rfl (any_of HT_.out (by kernel_rfl)) (fun _ _ _ h => h) (Or.inl ⟨by rfl, ?_⟩) ?_ ?_
                            rotate_left
                            · intro w'
                              go_simp
                              with_reducible rfl
                            rotate_left
                            · simp only [Act.put, List.setIfInBounds_toArray, List.set_cons_zero, List.set_cons_succ, i64_w, i32_w]
                              rfl
                            refine pure_ (i := 10) (N := some 82) (v := ?_) (a' := ?_) #[false, false, true, true, true, true, true, false, true, true, true, false, false] rfl rfl (any_of HT_.out (by kernel_rfl)) (fun _ _ _ h => h) (Or.inl ⟨by rfl, ?_⟩) ?_ ?_
                            rotate_left
                            · intro w'
                              go_simp
                              with_reducible rfl
                            rotate_left
                            · simp only [Act.put, List.setIfInBounds_toArray, List.set_cons_zero, List.set_cons_succ, i64_w, i32_w]
                              rfl
                            refine take_ (i := 0) (N := some 72) (v := ?_) (a' := ?_) #[true, false, true, true, true, true, true, false, true, true, true, false, false] rfl rfl (take_ofW HT_.out HW_.out (by kernel_rfl)) (fun _ _ _ h => h) (Or.inl ⟨by rfl, ?_⟩) hHeld ?_ ?_
                            rotate_left
                            · rintro w' ⟨s0, s1, s2, s3, s4, s5⟩
                              go_simp
                              with_reducible rfl
                            rotate_left
                            · simp only [Act.put, List.setIfInBounds_toArray, List.set_cons_zero, List.set_cons_succ, i64_w, i32_w]
                              rfl
                            refine take_ (i := 1) (N := some 73) (v := ?_) (a' := ?_) #[true, true, true, true, true, true, true, false, true, true, true, false, false] rfl rfl (take_ofW HT_.out HW_.out (by kernel_rfl)) (fun _ _ _ h => h) (Or.inl ⟨by rfl, ?_⟩) hHeld ?_ ?_
                            rotate_left
                            · rintro w' ⟨s0, s1, s2, s3, s4, s5⟩
                              go_simp
                              with_reducible rfl
                            rotate_left
                            · simp only [Act.put, List.setIfInBounds_toArray, List.set_cons_zero, List.set_cons_succ, i64_w, i32_w]
                              rfl
                            refine one_ (i := 7) (N := some 79) #[true, true, true, true, true, true, true, true, true, true, true, false, false] rfl rfl (one_of HT_.out (by kernel_rfl)) (by decide) (fun K hK => ?_)
                            refine goes_ Try.func14 (by kernel_rfl) rfl #[.agg #[.int .i64 a0_0, .int .i64 a0_1, .int .i64 a0_2, .int .u64 a0_3, .int .u64 a0_4, .int .u64 a0_5], .slice A3 l3.length c3, .slice A4 y186.length c4, .int .u64 a1, .bool false] (by rfl) rfl rfl (by (try simp only [List.map_toArray, List.map_cons, List.map_nil]); first | done | rfl | (simp only [List.length_drop, List.length_take]; rfl)) ?_
                            with_reducible refine (spec_Chained.calls kj20 a0_0 a0_1 a0_2 a0_3 a0_4 a0_5 (fun k_ => k_ < w.heap.size) _ _ l3 _ _ y186 a1 false t190 _ ?side1 ?side2 ?side3 A32.out).mono ?_
                            (case side1 => exact Kd.V_mk HC3.out (Kd.F_below (Kd.C_F (Kd.heap_int .u8) HR3.out) (by repeat (first | (with_reducible first | exact HB.out | apply below_alloc | apply pw_below_drewN | apply below_drew1 | refine below_set ?_ GE175.out) | exact HB.out))))
                            (case side2 => repeat (first | exact (Kd.C_below HR189.out HB.out) | (with_reducible refine Kd.C_alloc ?_ _) | (with_reducible refine Kd.C_drewN ?_ _) | (with_reducible refine Kd.C_drew ?_)))
                            (case side3 => exact HC189.out)
                            rintro e w67 ⟨v191, rfl, ho0, hb⟩
                            refine ⟨_, rfl, ?_⟩
                            have n0_ := Aside0.mk (Kd.V_lower (Kd.V_mono (ok' := fun k_ => k_ ≠ gb175) ho0 (fun k_ hk_ => Or.elim hk_ (fun hs_ => fun e_ => Nat.not_le.2 hs_ (by rw [e_]; exact GW175.out)) (fun hn_ => (Kd.freshB (g := gb175) (o := .cells #[.int .i64 a0_0, .int .i64 a0_1, .int .i64 a0_2, .int .u64 a0_3, .int .u64 a0_4, .int .u64 a0_5] 24 (0, 0)) (by (with_reducible repeat (first | refine blk_drewN ?_ _ | refine blk_drew ?_ | refine blk_alloc ?_ _)); exact BK175.out) k_ hn_)))) (below_size (by repeat (first | (with_reducible first | exact HB.out | apply below_alloc | apply pw_below_drewN | apply below_drew1 | refine below_set ?_ GE175.out) | exact HB.out))))
                            have n1_ := Aside0.mk (blk_below (g := gb175) (o := .cells #[.int .i64 a0_0, .int .i64 a0_1, .int .i64 a0_2, .int .u64 a0_3, .int .u64 a0_4, .int .u64 a0_5] 24 (0, 0)) (by (with_reducible repeat (first | refine blk_drewN ?_ _ | refine blk_drew ?_ | refine blk_alloc ?_ _)); exact BK175.out) hb)
                            have n2_ := Aside0.mk (below_step (by repeat (first | (with_reducible first | exact HB.out | apply below_alloc | apply pw_below_drewN | apply below_drew1 | refine below_set ?_ GE175.out) | exact HB.out)) hb)
                            clear BK175
                            clear HB
                            have HO192 := n0_
                            have BK175 := n1_
                            have HB := n2_
                            clear n0_ n1_ n2_
                            (try clear hb)
                            (try clear hb2)
                            (try clear hk)
                            (try clear hi)
                            (try clear ho0)
                            obtain ⟨Ao68, co68, eo68⟩ := Kd.V_slice HO192.out
                            (first | subst eo68 | (injection eo68 with f1_ f2_ f3_; have f4_ := f1_.symm; have f5_ := f3_.symm; clear f1_ f2_ f3_; subst f4_; subst f5_))
                            refine hK.out _ _ ⟨(blk_cell BK175.out 0).trans rfl, (blk_cell BK175.out 1).trans rfl, (blk_cell BK175.out 2).trans rfl, (blk_cell BK175.out 3).trans rfl, (blk_cell BK175.out 4).trans rfl, (blk_cell BK175.out 5).trans rfl⟩ (fun hHeld => ?_)
                            clear hK K
                            refine norm_ (a' := ?_) ?_ ?_
                            rotate_left
                            · show Act.put _ (some 79) _ = _
                              simp only [Act.put, List.setIfInBounds_toArray, List.set_cons_zero, List.set_cons_succ, i64_w, i32_w]
                              rfl
                            refine one_ (i := 11) (N := some 83) #[true, true, true, true, true, true, true, true, true, true, true, true, false] rfl rfl (one_of HT_.out (by kernel_rfl)) (by decide) (fun K hK => ?_)
                            refine goes_ Try.func14 (by kernel_rfl) rfl #[.agg #[.int .i64 a0_0, .int .i64 a0_1, .int .i64 a0_2, .int .u64 a0_3, .int .u64 a0_4, .int .u64 a0_5], .slice Ao68 t190.length co68, .slice A66 y193.length c66, .int .u64 18446744073709551615, .bool true] (by rfl) rfl rfl (by (try simp only [List.map_toArray, List.map_cons, List.map_nil]); first | done | rfl | (simp only [List.length_drop, List.length_take]; rfl)) ?_
                            with_reducible refine (spec_Chained.calls kj20 a0_0 a0_1 a0_2 a0_3 a0_4 a0_5 (fun k_ => k_ ≠ gb175) _ _ t190 _ _ y193 18446744073709551615 true t197 _ ?side1 ?side2 ?side3 A35.out).mono ?_
                            (case side1 => exact HO192.out)
                            (case side2 => repeat (first | exact (Kd.C_below HR196.out HB.out) | (with_reducible refine Kd.C_alloc ?_ _) | (with_reducible refine Kd.C_drewN ?_ _) | (with_reducible refine Kd.C_drew ?_)))
                            (case side3 => exact HC196.out)
                            rintro e w69 ⟨v198, rfl, ho0, hb⟩
                            refine ⟨_, rfl, ?_⟩
                            have n0_ := Aside0.mk (Kd.V_below (by (with_reducible repeat (first | apply Kd.V_alloc | apply Kd.V_drewN | apply Kd.V_drew)); exact HO192.out) hb)
                            have n1_ := Aside0.mk (Kd.V_lower (Kd.V_mono (ok' := fun k_ => k_ ≠ gb175) ho0 (fun k_ hk_ => Or.elim hk_ (fun hs_ => hs_) (fun hn_ => (Kd.freshB (g := gb175) (o := .cells #[.int .i64 a0_0, .int .i64 a0_1, .int .i64 a0_2, .int .u64 a0_3, .int .u64 a0_4, .int .u64 a0_5] 24 (0, 0)) (by (with_reducible repeat (first | refine blk_drewN ?_ _ | refine blk_drew ?_ | refine blk_alloc ?_ _)); exact BK175.out) k_ hn_)))) (below_size (by repeat (first | (with_reducible first | exact HB.out | apply below_alloc | apply pw_below_drewN | apply below_drew1 | refine below_set ?_ GE175.out) | exact HB.out))))
                            have n2_ := Aside0.mk (blk_below (g := gb175) (o := .cells #[.int .i64 a0_0, .int .i64 a0_1, .int .i64 a0_2, .int .u64 a0_3, .int .u64 a0_4, .int .u64 a0_5] 24 (0, 0)) (by (with_reducible repeat (first | refine blk_drewN ?_ _ | refine blk_drew ?_ | refine blk_alloc ?_ _)); exact BK175.out) hb)
                            have n3_ := Aside0.mk (below_step (by repeat (first | (with_reducible first | exact HB.out | apply below_alloc | apply pw_below_drewN | apply below_drew1 | refine below_set ?_ GE175.out) | exact HB.out)) hb)
                            clear HO192
                            clear BK175
                            clear HB
                            have HO192 := n0_
                            have HO199 := n1_
                            have BK175 := n2_
                            have HB := n3_
                            clear n0_ n1_ n2_ n3_
                            (try clear hb)
                            (try clear hb2)
                            (try clear hk)
                            (try clear hi)
                            (try clear ho0)
                            refine hK.out _ _ ⟨(blk_cell BK175.out 0).trans rfl, (blk_cell BK175.out 1).trans rfl, (blk_cell BK175.out 2).trans rfl, (blk_cell BK175.out 3).trans rfl, (blk_cell BK175.out 4).trans rfl, (blk_cell BK175.out 5).trans rfl⟩ (fun hHeld => ?_)
                            clear hK K
                            refine norm_ (a' := ?_) ?_ ?_
                            rotate_left
                            · show Act.put _ (some 83) _ = _
                              simp only [Act.put, List.setIfInBounds_toArray, List.set_cons_zero, List.set_cons_succ, i64_w, i32_w]
                              rfl
                            refine pure_ (i := 12) (N := some 16) (v := ?_) (a' := ?_) #[true, true, true, true, true, true, true, true, true, true, true, true, true] rfl rfl (any_of HT_.out (by kernel_rfl)) (fun _ _ _ h => h) (Or.inl ⟨by rfl, ?_⟩) ?_ ?_
                            rotate_left
                            · intro w'
                              go_simp
                              with_reducible rfl
                            rotate_left
                            · simp only [Act.put, List.setIfInBounds_toArray, List.set_cons_zero, List.set_cons_succ, i64_w, i32_w]
                              rfl
                            refine done_ (done_of HT_.out (by kernel_rfl)) ?_
                            obtain ⟨Ao70, co70, eo70⟩ := Kd.V_slice HO199.out
                            subst eo70
                            try go_wp2_with (first | (go_at_call 10; (with_reducible refine (spec_SameText.calls _ _ t197 _ _ l5 t202 _ ?side1 ?side2 ?side3 ?side4 A63.out).mono ?_); (case side1 => repeat (first | exact (Kd.V_reads' HO199.out).2.2 | (with_reducible refine Kd.C_alloc ?_ _) | (with_reducible refine Kd.C_drewN ?_ _) | (with_reducible refine Kd.C_drew ?_))); (case side2 => exact (Kd.V_reads' HO199.out).2.1); (case side3 => repeat (first | exact (Kd.C_below HR5.out HB.out) | (with_reducible refine Kd.C_alloc ?_ _) | (with_reducible refine Kd.C_drewN ?_ _) | (with_reducible refine Kd.C_drew ?_))); (case side4 => exact HC5.out); rintro e w' ⟨rfl, ⟨nd, rfl⟩⟩))
                            go_ret
                            first | (exfalso; have e1 := eq_of_beq c36b0; have e2 := eq_of_beq c46b0; omega) | (exact ⟨by first | rfl | (simp [errW_none, errW_some] <;> rfl) | (simp [*, errW_none, errW_some] <;> rfl), by repeat (first | (with_reducible first | exact HB.out | apply below_alloc | apply pw_below_drewN | apply below_drew1 | refine below_set ?_ GE175.out) | exact HB.out)⟩)
                          · rw [if_neg c62] at H
                            have c62b0 : (t178 == 1) = false := beq_eq_false_iff_ne.mpr c62
                            have c62b1 : (t178 != 1) = true := bne_iff_ne.mpr c62
                            obtain rfl := Option.some.inj H
                            try go_wp2_with (first | ((with_reducible refine gate_callee (f := 13) rfl ?_); refine goesL_ (some 71) rfl rfl Try.func13 (by kernel_rfl) rfl #[.int .u64 a1, .int .u64 a2] rfl (by (try simp only [List.map_toArray, List.map_cons, List.map_nil]); first | done | rfl | (simp only [List.length_drop, List.length_take]; rfl)) ?_; (with_reducible refine (spec_Inner.calls kj20 a1 a2 t185 _ A29.out).mono ?_); rintro e w' ⟨rfl, ⟨nd, rfl⟩⟩; refine ⟨_, rfl, ?_⟩))
                            (try (rw [drewN_self wc]; generalize hq_ : World.drewN wc _ = wc; have n0_ : Aside0 (wc.heap[gb175]? = some (.cells #[.int .i64 a0_0, .int .i64 a0_1, .int .i64 a0_2, .int .u64 a0_3, .int .u64 a0_4, .int .u64 a0_5] 24 (0, 0))) := ⟨by rw [← hq_]; exact (by (with_reducible repeat (first | refine blk_drewN ?_ _ | refine blk_drew ?_ | refine blk_alloc ?_ _)); exact BK175.out)⟩; have n1_ : Aside0 (Below w.heap.size w wc) := ⟨by rw [← hq_]; exact (by repeat (first | (with_reducible first | exact HB.out | apply below_alloc | apply pw_below_drewN | apply below_drew1 | refine below_set ?_ GE175.out) | exact HB.out))⟩; clear BK175 HB hq_; have BK175 := n0_; have HB := n1_; clear n0_ n1_))
                            have n0_ := Aside0.mk (blk_drew BK175.out)
                            have n1_ := Aside0.mk (below_drew1 HB.out)
                            clear BK175
                            clear HB
                            have BK175 := n0_
                            have HB := n1_
                            clear n0_ n1_
                            have q72 : (t185 : Int) ≤ ((l4.length : Int) : Int) := of_decide_eq_true (by first | (with_reducible assumption) | assumption)
                            obtain ⟨i072, hi072, _, hsz72, _⟩ := info_parts info25
                            have hroom72 : l4.length ≤ c4 := HC4.out
                            have hC72 : Kd.C (Kd.slice 5 (Kd.int .u8)) _ A4 l4.length l4 := HR4.out
                            have hcut72 := cut_to (P := Try.prog) 26 25 .i64 Try.underlying26 hi072 A4 l4.length c4 t185 (of_decide_eq_true (by first | (with_reducible assumption) | assumption)) q72 hroom72
                            have hr72 := Kd.C_take (m := (t185 : Int).toNat) hC72 (by omega)
                            have hy72 : y186.length = (t185 : Int).toNat := (by rw [Ny186.out, List.length_take]; omega)
                            rw [← Ny186.out] at hr72
                            rw [← hy72] at hcut72
                            have HR189 := Aside0.mk hr72
                            have HC189 := Aside0.mk (show y186.length ≤ c4 from by omega)
                            clear hr72 hC72 hroom72 hi072 hsz72
                            have KY72 := Aside0.mk hy72
                            clear hy72
                            replace q72 := eq_true q72
                            have q73 : (t185 : Int) ≤ ((l4.length : Int) : Int) := of_decide_eq_true (by first | (with_reducible assumption) | assumption)
                            obtain ⟨i073, hi073, _, hsz73, _⟩ := info_parts info25
                            have hroom73 : l4.length ≤ c4 := HC4.out
                            have hC73 : Kd.C (Kd.slice 5 (Kd.int .u8)) _ A4 l4.length l4 := HR4.out
                            have q073 : (0 : Int) ≤ (t185 : Int) := of_decide_eq_true (by first | (with_reducible assumption) | assumption)
                            have hcut73 := cut_from (P := Try.prog) 26 25 .i64 Try.underlying26 hi073 1 hsz73 A4 l4.length c4 t185 q073 q73
                            have hr73 := Kd.C_drop (m := (t185 : Int).toNat) (c := c4) hC73 (by omega) hroom73
                            obtain ⟨A73, hA73⟩ : ∃ A1, A1 = (if c4 = (t185 : Int).toNat then A4 else (A4 : Option Addr).map (·.add ((t185 : Int).toNat * 1))) := ⟨_, rfl⟩
                            obtain ⟨c73, hc73⟩ : ∃ c1, c1 = c4 - (t185 : Int).toNat := ⟨_, rfl⟩
                            have hy73 : y193.length = l4.length - (t185 : Int).toNat := (by rw [Ny193.out, List.length_drop] <;> omega)
                            rw [show (l4).drop (t185 : Int).toNat = y193 from Ny193.out.symm] at hr73
                            replace hr73 : Kd.C (Kd.slice 5 (Kd.int .u8)) _ A73 y193.length y193 := (by rw [hA73]; exact hr73)
                            rw [← hy73, ← hA73, ← hc73] at hcut73
                            have HR196 := Aside0.mk hr73
                            have HC196 := Aside0.mk (show y193.length ≤ c73 from by rw [hy73, hc73]; exact Nat.sub_le_sub_right hroom73 _)
                            clear hr73 hC73 hroom73 hi073 hsz73 hc73
                            have KY73 := Aside0.mk hy73
                            have KA73 := Aside0.mk hA73
                            clear hy73 hA73
                            replace q73 := eq_true q73
                            refine start_ (n := 13) (S := fun w' => w'.cell? ⟨gb175, 0, none⟩ = some (.int .i64 a0_0) ∧ w'.cell? ⟨gb175, 1, none⟩ = some (.int .i64 a0_1) ∧ w'.cell? ⟨gb175, 2, none⟩ = some (.int .i64 a0_2) ∧ w'.cell? ⟨gb175, 3, none⟩ = some (.int .u64 a0_3) ∧ w'.cell? ⟨gb175, 4, none⟩ = some (.int .u64 a0_4) ∧ w'.cell? ⟨gb175, 5, none⟩ = some (.int .u64 a0_5)) (ds := []) #[false, false, false, false, false, false, false, false, false, false, false, false, false] (by kernel_rfl) rfl rfl ⟨(blk_cell BK175.out 0).trans rfl, (blk_cell BK175.out 1).trans rfl, (blk_cell BK175.out 2).trans rfl, (blk_cell BK175.out 3).trans rfl, (blk_cell BK175.out 4).trans rfl, (blk_cell BK175.out 5).trans rfl⟩ (fun hHeld => ?_); refine with_tabW laws_FnVerifyInclusionFar.tab9 laws_FnVerifyInclusionFar.bits9 (fun HT_ HW_ => ?_)
                            generalize wc.drew = w71 at BK175 HB HR189 HR196 hHeld ⊢
                            refine pure_ (i := 2) (N := some 74) (v := ?_) (a' := ?_) #[false, false, true, false, false, false, false, false, false, false, false, false, false] rfl rfl (any_of HT_.out (by kernel_rfl)) (fun _ _ _ h => h) (Or.inl ⟨by rfl, ?_⟩) ?_ ?_
                            rotate_left
                            · intro w'
                              go_simp
                              with_reducible rfl
                            rotate_left
                            · simp only [Act.put, List.setIfInBounds_toArray, List.set_cons_zero, List.set_cons_succ, i64_w, i32_w]
                              rfl
                            refine pure_ (i := 3) (N := some 75) (v := ?_) (a' := ?_) #[false, false, true, true, false, false, false, false, false, false, false, false, false] rfl rfl (any_of HT_.out (by kernel_rfl)) (fun _ _ _ h => h) (Or.inl ⟨by rfl, ?_⟩) ?_ ?_
                            rotate_left
                            · intro w'
                              go_simp
                              with_reducible rfl
                            rotate_left
                            · simp only [Act.put, List.setIfInBounds_toArray, List.set_cons_zero, List.set_cons_succ, i64_w, i32_w]
                              rfl
                            refine pure_ (i := 4) (N := some 76) (v := ?_) (a' := ?_) #[false, false, true, true, true, false, false, false, false, false, false, false, false] rfl rfl (any_of HT_.out (by kernel_rfl)) (fun _ _ _ h => h) (Or.inl ⟨by rfl, ?_⟩) ?_ ?_
                            rotate_left
                            · intro w'
                              go_simp
                              with_reducible rfl
                            rotate_left
                            · simp only [Act.put, List.setIfInBounds_toArray, List.set_cons_zero, List.set_cons_succ, i64_w, i32_w]
                              rfl
                            refine pure_ (i := 5) (N := some 77) (v := ?_) (a' := ?_) #[false, false, true, true, true, true, false, false, false, false, false, false, false] rfl rfl (any_of HT_.out (by kernel_rfl)) (fun _ _ _ h => h) (Or.inl ⟨by rfl, ?_⟩) ?_ ?_
                            rotate_left
                            · intro w'
                              go_simp
                              with_reducible rfl
                            rotate_left
                            · simp only [Act.put, List.setIfInBounds_toArray, List.set_cons_zero, List.set_cons_succ, i64_w, i32_w]
                              rfl
                            refine pure_ (i := 6) (N := some 78) (v := ?_) (a' := ?_) #[false, false, true, true, true, true, true, false, false, false, false, false, false] rfl rfl (any_of HT_.out (by kernel_rfl)) (fun _ _ _ h => h) (Or.inl ⟨by rfl, ?_⟩) ?_ ?_
                            rotate_left
                            · intro w'
                              go_simp
                              with_reducible rfl
                            rotate_left
                            · simp only [Act.put, List.setIfInBounds_toArray, List.set_cons_zero, List.set_cons_succ, i64_w, i32_w]
                              rfl
                            refine pure_ (i := 8) (N := some 80) (v := ?_) (a' := ?_) #[false, false, true, true, true, true, true, false, true, false, false, false, false] rfl rfl (any_of HT_.out (by kernel_rfl)) (fun _ _ _ h => h) (Or.inl ⟨by rfl, ?_⟩) ?_ ?_
                            rotate_left
                            · intro w'
                              go_simp
                              with_reducible rfl
                            rotate_left
                            · simp only [Act.put, List.setIfInBounds_toArray, List.set_cons_zero, List.set_cons_succ, i64_w, i32_w]
                              rfl
                            refine pure_ (i := 9) (N := some 81) (v := ?_) (a' := ?_) #[false, false, true, true, true, true, true, false, true, true, false, false, false] rfl rfl (any_of HT_.out (by kernel_rfl)) (fun _ _ _ h => h) (Or.inl ⟨by rfl, ?_⟩) ?_ ?_
                            rotate_left
                            · intro w'
                              go_simp
                              with_reducible rfl
                            rotate_left
                            · simp only [Act.put, List.setIfInBounds_toArray, List.set_cons_zero, List.set_cons_succ, i64_w, i32_w]
                              rfl
                            refine pure_ (i := 10) (N := some 82) (v := ?_) (a' := ?_) #[false, false, true, true, true, true, true, false, true, true, true, false, false] rfl rfl (any_of HT_.out (by kernel_rfl)) (fun _ _ _ h => h) (Or.inl ⟨by rfl, ?_⟩) ?_ ?_
                            rotate_left
                            · intro w'
                              go_simp
                              with_reducible rfl
                            rotate_left
                            · simp only [Act.put, List.setIfInBounds_toArray, List.set_cons_zero, List.set_cons_succ, i64_w, i32_w]
                              rfl
                            refine take_ (i := 0) (N := some 72) (v := ?_) (a' := ?_) #[true, false, true, true, true, true, true, false, true, true, true, false, false] rfl rfl (take_ofW HT_.out HW_.out (by kernel_rfl)) (fun _ _ _ h => h) (Or.inl ⟨by rfl, ?_⟩) hHeld ?_ ?_
                            rotate_left
                            · rintro w' ⟨s0, s1, s2, s3, s4, s5⟩
                              go_simp
                              with_reducible rfl
                            rotate_left
                            · simp only [Act.put, List.setIfInBounds_toArray, List.set_cons_zero, List.set_cons_succ, i64_w, i32_w]
                              rfl
                            refine take_ (i := 1) (N := some 73) (v := ?_) (a' := ?_) #[true, true, true, true, true, true, true, false, true, true, true, false, false] rfl rfl (take_ofW HT_.out HW_.out (by kernel_rfl)) (fun _ _ _ h => h) (Or.inl ⟨by rfl, ?_⟩) hHeld ?_ ?_
                            rotate_left
                            · rintro w' ⟨s0, s1, s2, s3, s4, s5⟩
                              go_simp
                              with_reducible rfl
                            rotate_left
                            · simp only [Act.put, List.setIfInBounds_toArray, List.set_cons_zero, List.set_cons_succ, i64_w, i32_w]
                              rfl
                            refine one_ (i := 7) (N := some 79) #[true, true, true, true, true, true, true, true, true, true, true, false, false] rfl rfl (one_of HT_.out (by kernel_rfl)) (by decide) (fun K hK => ?_)
                            refine goes_ Try.func14 (by kernel_rfl) rfl #[.agg #[.int .i64 a0_0, .int .i64 a0_1, .int .i64 a0_2, .int .u64 a0_3, .int .u64 a0_4, .int .u64 a0_5], .slice A3 l3.length c3, .slice A4 y186.length c4, .int .u64 a1, .bool false] (by rfl) rfl rfl (by (try simp only [List.map_toArray, List.map_cons, List.map_nil]); first | done | rfl | (simp only [List.length_drop, List.length_take]; rfl)) ?_
                            with_reducible refine (spec_Chained.calls kj20 a0_0 a0_1 a0_2 a0_3 a0_4 a0_5 (fun k_ => k_ < w.heap.size) _ _ l3 _ _ y186 a1 false t190 _ ?side1 ?side2 ?side3 A32.out).mono ?_
                            (case side1 => exact Kd.V_mk HC3.out (Kd.F_below (Kd.C_F (Kd.heap_int .u8) HR3.out) (by repeat (first | (with_reducible first | exact HB.out | apply below_alloc | apply pw_below_drewN | apply below_drew1 | refine below_set ?_ GE175.out) | exact HB.out))))
                            (case side2 => repeat (first | exact (Kd.C_below HR189.out HB.out) | (with_reducible refine Kd.C_alloc ?_ _) | (with_reducible refine Kd.C_drewN ?_ _) | (with_reducible refine Kd.C_drew ?_)))
                            (case side3 => exact HC189.out)
                            rintro e w74 ⟨v191, rfl, ho0, hb⟩
                            refine ⟨_, rfl, ?_⟩
                            have n0_ := Aside0.mk (Kd.V_lower (Kd.V_mono (ok' := fun k_ => k_ ≠ gb175) ho0 (fun k_ hk_ => Or.elim hk_ (fun hs_ => fun e_ => Nat.not_le.2 hs_ (by rw [e_]; exact GW175.out)) (fun hn_ => (Kd.freshB (g := gb175) (o := .cells #[.int .i64 a0_0, .int .i64 a0_1, .int .i64 a0_2, .int .u64 a0_3, .int .u64 a0_4, .int .u64 a0_5] 24 (0, 0)) (by (with_reducible repeat (first | refine blk_drewN ?_ _ | refine blk_drew ?_ | refine blk_alloc ?_ _)); exact BK175.out) k_ hn_)))) (below_size (by repeat (first | (with_reducible first | exact HB.out | apply below_alloc | apply pw_below_drewN | apply below_drew1 | refine below_set ?_ GE175.out) | exact HB.out))))
                            have n1_ := Aside0.mk (blk_below (g := gb175) (o := .cells #[.int .i64 a0_0, .int .i64 a0_1, .int .i64 a0_2, .int .u64 a0_3, .int .u64 a0_4, .int .u64 a0_5] 24 (0, 0)) (by (with_reducible repeat (first | refine blk_drewN ?_ _ | refine blk_drew ?_ | refine blk_alloc ?_ _)); exact BK175.out) hb)
                            have n2_ := Aside0.mk (below_step (by repeat (first | (with_reducible first | exact HB.out | apply below_alloc | apply pw_below_drewN | apply below_drew1 | refine below_set ?_ GE175.out) | exact HB.out)) hb)
                            clear BK175
                            clear HB
                            have HO192 := n0_
                            have BK175 := n1_
                            have HB := n2_
                            clear n0_ n1_ n2_
                            (try clear hb)
                            (try clear hb2)
                            (try clear hk)
                            (try clear hi)
                            (try clear ho0)
                            obtain ⟨Ao75, co75, eo75⟩ := Kd.V_slice HO192.out
                            (first | subst eo75 | (injection eo75 with f1_ f2_ f3_; have f4_ := f1_.symm; have f5_ := f3_.symm; clear f1_ f2_ f3_; subst f4_; subst f5_))
                            refine hK.out _ _ ⟨(blk_cell BK175.out 0).trans rfl, (blk_cell BK175.out 1).trans rfl, (blk_cell BK175.out 2).trans rfl, (blk_cell BK175.out 3).trans rfl, (blk_cell BK175.out 4).trans rfl, (blk_cell BK175.out 5).trans rfl⟩ (fun hHeld => ?_)
                            clear hK K
                            refine norm_ (a' := ?_) ?_ ?_
                            rotate_left
                            · show Act.put _ (some 79) _ = _
                              simp only [Act.put, List.setIfInBounds_toArray, List.set_cons_zero, List.set_cons_succ, i64_w, i32_w]
                              rfl
                            refine one_ (i := 11) (N := some 83) #[true, true, true, true, true, true, true, true, true, true, true, true, false] rfl rfl (one_of HT_.out (by kernel_rfl)) (by decide) (fun K hK => ?_)
                            refine goes_ Try.func14 (by kernel_rfl) rfl #[.agg #[.int .i64 a0_0, .int .i64 a0_1, .int .i64 a0_2, .int .u64 a0_3, .int .u64 a0_4, .int .u64 a0_5], .slice Ao75 t190.length co75, .slice A73 y193.length c73, .int .u64 18446744073709551615, .bool true] (by rfl) rfl rfl (by (try simp only [List.map_toArray, List.map_cons, List.map_nil]); first | done | rfl | (simp only [List.length_drop, List.length_take]; rfl)) ?_
                            with_reducible refine (spec_Chained.calls kj20 a0_0 a0_1 a0_2 a0_3 a0_4 a0_5 (fun k_ => k_ ≠ gb175) _ _ t190 _ _ y193 18446744073709551615 true t197 _ ?side1 ?side2 ?side3 A35.out).mono ?_
                            (case side1 => exact HO192.out)
                            (case side2 => repeat (first | exact (Kd.C_below HR196.out HB.out) | (with_reducible refine Kd.C_alloc ?_ _) | (with_reducible refine Kd.C_drewN ?_ _) | (with_reducible refine Kd.C_drew ?_)))
                            (case side3 => exact HC196.out)
                            rintro e w76 ⟨v198, rfl, ho0, hb⟩
                            refine ⟨_, rfl, ?_⟩
                            have n0_ := Aside0.mk (Kd.V_below (by (with_reducible repeat (first | apply Kd.V_alloc | apply Kd.V_drewN | apply Kd.V_drew)); exact HO192.out) hb)
                            have n1_ := Aside0.mk (Kd.V_lower (Kd.V_mono (ok' := fun k_ => k_ ≠ gb175) ho0 (fun k_ hk_ => Or.elim hk_ (fun hs_ => hs_) (fun hn_ => (Kd.freshB (g := gb175) (o := .cells #[.int .i64 a0_0, .int .i64 a0_1, .int .i64 a0_2, .int .u64 a0_3, .int .u64 a0_4, .int .u64 a0_5] 24 (0, 0)) (by (with_reducible repeat (first | refine blk_drewN ?_ _ | refine blk_drew ?_ | refine blk_alloc ?_ _)); exact BK175.out) k_ hn_)))) (below_size (by repeat (first | (with_reducible first | exact HB.out | apply below_alloc | apply pw_below_drewN | apply below_drew1 | refine below_set ?_ GE175.out) | exact HB.out))))
                            have n2_ := Aside0.mk (blk_below (g := gb175) (o := .cells #[.int .i64 a0_0, .int .i64 a0_1, .int .i64 a0_2, .int .u64 a0_3, .int .u64 a0_4, .int .u64 a0_5] 24 (0, 0)) (by (with_reducible repeat (first | refine blk_drewN ?_ _ | refine blk_drew ?_ | refine blk_alloc ?_ _)); exact BK175.out) hb)
                            have n3_ := Aside0.mk (below_step (by repeat (first | (with_reducible first | exact HB.out | apply below_alloc | apply pw_below_drewN | apply below_drew1 | refine below_set ?_ GE175.out) | exact HB.out)) hb)
                            clear HO192
                            clear BK175
                            clear HB
                            have HO192 := n0_
                            have HO199 := n1_
                            have BK175 := n2_
                            have HB := n3_
                            clear n0_ n1_ n2_ n3_
                            (try clear hb)
                            (try clear hb2)
                            (try clear hk)
                            (try clear hi)
                            (try clear ho0)
                            refine hK.out _ _ ⟨(blk_cell BK175.out 0).trans rfl, (blk_cell BK175.out 1).trans rfl, (blk_cell BK175.out 2).trans rfl, (blk_cell BK175.out 3).trans rfl, (blk_cell BK175.out 4).trans rfl, (blk_cell BK175.out 5).trans rfl⟩ (fun hHeld => ?_)
                            clear hK K
                            refine norm_ (a' := ?_) ?_ ?_
                            rotate_left
                            · show Act.put _ (some 83) _ = _
                              simp only [Act.put, List.setIfInBounds_toArray, List.set_cons_zero, List.set_cons_succ, i64_w, i32_w]
                              rfl
                            refine pure_ (i := 12) (N := some 16) (v := ?_) (a' := ?_) #[true, true, true, true, true, true, true, true, true, true, true, true, true] rfl rfl (any_of HT_.out (by kernel_rfl)) (fun _ _ _ h => h) (Or.inl ⟨by rfl, ?_⟩) ?_ ?_
                            rotate_left
                            · intro w'
                              go_simp
                              with_reducible rfl
                            rotate_left
                            · simp only [Act.put, List.setIfInBounds_toArray, List.set_cons_zero, List.set_cons_succ, i64_w, i32_w]
                              rfl
                            refine done_ (done_of HT_.out (by kernel_rfl)) ?_
                            try go_wp2
                            go_ret
                            first | (exfalso; have e1 := eq_of_beq c36b0; have e2 := eq_of_beq c46b0; omega) | (exact ⟨by first | rfl | (simp [errW_none, errW_some] <;> rfl) | (simp [*, errW_none, errW_some] <;> rfl), by repeat (first | (with_reducible first | exact HB.out | apply below_alloc | apply pw_below_drewN | apply below_drew1 | refine below_set ?_ GE175.out) | exact HB.out)⟩)
                      · rw [if_neg c31] at H
                        exact absurd H (by simp)
                    · rw [if_neg c30] at H
                      exact absurd H (by simp)

end Go.Proofs.Ytfhcpniibiobgaa.Qg
