-- Written by wip/tools/myprint.py for this seat (the kit's print with changes); Lean checks it.
import Derived.Test.YtfhcpniibiobgaaDoorQfx0
import Derived.Test.YtfhcpniibiobgaaDoorQfx2
namespace Go.Proofs.YtfhcpniibiobgaaDoor.Qf
open Go.RowKit Go.Proofs.YtfhcpniibiobgaaDoorW.PrintWords Go.Proofs.YtfhcpniibiobgaaDoorW.PrintLast Go.Proofs.YtfhcpniibiobgaaDoorW.PrintMore
attribute [local go_sem] max2_int min2_int max_two min_two max_three min_three max_four min_four
set_option linter.unusedVariables false
set_option linter.unusedSimpArgs false
def spec_ProperRange.f (k : Nat) (a0_0 : Int) (a0_1 : Int) (l0_2 : List (List Int)) : Option (Bool) := if a0_0 ≤ a0_1 then ((spec_Nodes.f k a0_0 a0_1).bind fun t133 => (some ((l0_2.length : Int) == (t133.length : Int)))) else (some false)
def spec_ProperRange.T1 : Bool × List (List Nat × List Nat) := (true, [([], []), ([0], [0]), ([], []), ([2], [2]), ([1, 3], [1, 3]), ([4], [4]), ([5], [5]), ([6, 5], [5, 6]), ([7, 5], [5, 7]), ([5], [5]), ([9, 5], [5, 9]), ([5], [5]), ([11, 5], [5, 11]), ([10, 12, 5], [5, 10, 12]), ([13, 5, 5], [5, 13]), ([14, 5], [5, 14]), ([8, 15, 5], [5, 8, 15]), ([5, 16], [5, 16]), ([17, 14, 0, 1, 2, 3, 4, 5, 6, 7, 8, 9, 10, 11, 12, 13, 14, 15, 16, 17], [17])])
def spec_ProperRange.B1 : List Nat := [0, 1, 0, 4, 15, 31, 63, 127, 255, 63, 575, 63, 2111, 7743, 15935, 32319, 65535, 131071, 262143]
theorem spec_ProperRange.tab1 : rtab .any (opsOf Tryd.f52 1) = spec_ProperRange.T1 := by kernel_rfl
theorem spec_ProperRange.bits1 : waitsOk spec_ProperRange.T1.2 spec_ProperRange.B1 = true := by kernel_rfl
set_option maxHeartbeats 8000000 in
set_option maxRecDepth 100000 in
theorem spec_ProperRange.calls (k : Nat) (a0_0 : Int) (a0_1 : Int) (A0_2 : Option Addr) (c0_2 : Nat) (l0_2 : List (List Int)) (r : Bool) (w : World) (hr0_2 : Kd.C (Kd.slice 5 (Kd.int .u8)) w A0_2 l0_2.length l0_2) (hc0_2 : l0_2.length ≤ c0_2) (h : spec_ProperRange.f k a0_0 a0_1 l0_2 = some r) :
    Calls Tryd.prog 52 #[.agg #[.int .u64 a0_0, .int .u64 a0_1, .slice A0_2 l0_2.length c0_2]] w fun e w' => e = .returned (.bool r) ∧ Below w.heap.size w w' := by
  have hu35 := Tryd.underlying35
  have hu55 := Tryd.underlying55
  have HR0_2 := aq hr0_2
  have HC0_2 := aq hc0_2
  clear hr0_2 hc0_2
  have HB := aq (Below.refl w.heap.size w)
  have H : (if a0_0 ≤ a0_1 then ((spec_Nodes.f k a0_0 a0_1).bind fun t133 => (some ((l0_2.length : Int) == (t133.length : Int)))) else (some false)) = some r := h
  clear h
  by_cases c2 : a0_0 ≤ a0_1
  · rw [if_pos c2] at H
    have c2b0 : decide (a0_0 ≤ a0_1) = true := decide_eq_true c2
    clear c2
    replace H := Option.bind_eq_some_iff.mp H
    obtain ⟨t133, A30, H⟩ := H
    have A3 := aq A30
    clear A30
    obtain rfl := Option.some.inj H
    go_enter Tryd.func52, Tryd.ntmps52
    try go_wp2_with (first | ((with_reducible refine gate_dst (N := 1) rfl ?_); (try (refine gate_guard (by rfl) ?_; dsimp only)); refine be 1 #[.int .u64 a0_0, .int .u64 a0_1, .slice A0_2 l0_2.length c0_2] 35 ?_; intro gb132 hg w4 hbox hb; have BK132 := aq (hbox); have GW132 := aq ((by rw [hg]; exact (below_size (bw HB)) : w.heap.size ≤ gb132)); have GE132 := aq ((by rw [hg]; exact (below_size (bw HB)) : w.heap.size ≤ gb132)); replace HB := aq (below_step (bw HB) hb); clear hb hbox hg))
    replace BK132 := aq (blk_drew BK132.out)
    replace HB := aq (below_drew1 HB.out)
    refine start_ (n := 19) (S := fun w' => w'.cell? ⟨gb132, 0, none⟩ = some (.int .u64 a0_0) ∧ w'.cell? ⟨gb132, 1, none⟩ = some (.int .u64 a0_1) ∧ w'.cell? ⟨gb132, 2, none⟩ = some (.slice A0_2 l0_2.length c0_2)) (ds := []) #[false, false, false, false, false, false, false, false, false, false, false, false, false, false, false, false, false, false, false] (by kernel_rfl) rfl rfl ⟨bc BK132 0, bc BK132 1, bc BK132 2⟩ (fun hHeld => ?_); refine with_tabW spec_ProperRange.tab1 spec_ProperRange.bits1 (fun HT_ HW_ => ?_)
    generalize w4.drew = w5 at BK132 HB hHeld ⊢
    refine pv 0 3 HT_ ?_
    refine pv 2 5 HT_ ?_
    refine tv 1 4 HT_ HW_ hHeld ?_
    refine tv 3 6 HT_ HW_ hHeld ?_
    refine pv 4 7 HT_ ?_
    refine pv 5 8 HT_ ?_
    refine pv 6 9 HT_ ?_
    refine pv 9 12 HT_ ?_
    refine pv 11 14 HT_ ?_
    refine tv 7 10 HT_ HW_ hHeld ?_
    refine pv 8 11 HT_ ?_
    refine tv 10 13 HT_ HW_ hHeld ?_
    refine tv 12 15 HT_ HW_ hHeld ?_
    refine pv 13 16 HT_ ?_
    refine ov1 14 17 HT_ fun K hK => ?_
    refine gS Tryd.func66 #[.agg #[.int .u64 a0_0, .int .u64 a0_1]] ?_
    with_reducible refine (spec_Nodes.calls k a0_0 a0_1 t133 _ A3.out).mono ?_
    rintro e w6 ⟨v134, rfl, ho0, hb⟩
    refine ⟨_, rfl, ?_⟩
    have HO135 := aq (Kd.R_lower ho0 (below_size (bw HB)))
    replace BK132 := aq (blk_below (bq BK132) hb)
    replace HB := aq (below_step (bw HB) hb)
    (try clear hb)
    (try clear ho0)
    obtain ⟨Ao7, co7, eo7⟩ := Kd.R_slice HO135.out
    (first | subst eo7 | (injection eo7 with f1_ f2_ f3_; have f4_ := f1_.symm; have f5_ := f3_.symm; clear f1_ f2_ f3_; subst f4_; subst f5_))
    refine hK.out _ _ ⟨bc BK132 0, bc BK132 1, bc BK132 2⟩ (fun hHeld => ?_)
    clear hK K
    refine nv ?_
    refine pv 15 18 HT_ ?_
    refine pv 16 19 HT_ ?_
    refine pv 17 20 HT_ ?_
    refine pv 18 2 HT_ ?_
    refine done_ (done_of HT_.out (by kernel_rfl)) ?_
    try go_wp2
    go_ret
    exact ⟨by first | rfl | (simp [errW_none, errW_some] <;> rfl) | (simp [*, errW_none, errW_some] <;> rfl), by repeat (first | (with_reducible first | exact HB.out | apply below_alloc | apply pw_below_drewN | apply below_drew1 | refine below_set ?_ GE132.out) | exact HB.out)⟩
  · rw [if_neg c2] at H
    have c2b0 : decide (a0_0 ≤ a0_1) = false := decide_eq_false c2
    clear c2
    obtain rfl := Option.some.inj H
    go_enter Tryd.func52, Tryd.ntmps52
    try go_wp2_with (first | ((with_reducible refine gate_dst (N := 1) rfl ?_); (try (refine gate_guard (by rfl) ?_; dsimp only)); refine be 1 #[.int .u64 a0_0, .int .u64 a0_1, .slice A0_2 l0_2.length c0_2] 35 ?_; intro gb132 hg w8 hbox hb; have BK132 := aq (hbox); have GW132 := aq ((by rw [hg]; exact (below_size (bw HB)) : w.heap.size ≤ gb132)); have GE132 := aq ((by rw [hg]; exact (below_size (bw HB)) : w.heap.size ≤ gb132)); replace HB := aq (below_step (bw HB) hb); clear hb hbox hg))
    replace BK132 := aq (blk_drew BK132.out)
    replace HB := aq (below_drew1 HB.out)
    refine start_ (n := 19) (S := fun w' => w'.cell? ⟨gb132, 0, none⟩ = some (.int .u64 a0_0) ∧ w'.cell? ⟨gb132, 1, none⟩ = some (.int .u64 a0_1) ∧ w'.cell? ⟨gb132, 2, none⟩ = some (.slice A0_2 l0_2.length c0_2)) (ds := []) #[false, false, false, false, false, false, false, false, false, false, false, false, false, false, false, false, false, false, false] (by kernel_rfl) rfl rfl ⟨bc BK132 0, bc BK132 1, bc BK132 2⟩ (fun hHeld => ?_); refine with_tabW spec_ProperRange.tab1 spec_ProperRange.bits1 (fun HT_ HW_ => ?_)
    generalize w8.drew = w9 at BK132 HB hHeld ⊢
    refine pv 0 3 HT_ ?_
    refine pv 2 5 HT_ ?_
    refine tv 1 4 HT_ HW_ hHeld ?_
    refine tv 3 6 HT_ HW_ hHeld ?_
    refine pv 4 7 HT_ ?_
    refine pv 5 8 HT_ ?_
    refine pure_ (i := 6) (N := some 9) (v := undef) (a' := ?_) #[true, true, true, true, true, true, true, false, false, false, false, false, false, false, false, false, false, false, false] rfl rfl (any_of HT_.out (by kernel_rfl)) (fun _ _ _ h => h) (Or.inr ⟨by rfl, rfl⟩) ?_ ?_
    rotate_left
    · simp only [Act.put, List.setIfInBounds_toArray, List.set_cons_zero, List.set_cons_succ, i64_w, i32_w]
      rfl
    refine pure_ (i := 7) (N := some 10) (v := undef) (a' := ?_) #[true, true, true, true, true, true, true, true, false, false, false, false, false, false, false, false, false, false, false] rfl rfl (any_of HT_.out (by kernel_rfl)) (fun _ _ _ h => h) (Or.inr ⟨by rfl, rfl⟩) ?_ ?_
    rotate_left
    · simp only [Act.put, List.setIfInBounds_toArray, List.set_cons_zero, List.set_cons_succ, i64_w, i32_w]
      rfl
    refine pure_ (i := 8) (N := some 11) (v := undef) (a' := ?_) #[true, true, true, true, true, true, true, true, true, false, false, false, false, false, false, false, false, false, false] rfl rfl (any_of HT_.out (by kernel_rfl)) (fun _ _ _ h => h) (Or.inr ⟨by rfl, rfl⟩) ?_ ?_
    rotate_left
    · simp only [Act.put, List.setIfInBounds_toArray, List.set_cons_zero, List.set_cons_succ, i64_w, i32_w]
      rfl
    refine pure_ (i := 9) (N := some 12) (v := undef) (a' := ?_) #[true, true, true, true, true, true, true, true, true, true, false, false, false, false, false, false, false, false, false] rfl rfl (any_of HT_.out (by kernel_rfl)) (fun _ _ _ h => h) (Or.inr ⟨by rfl, rfl⟩) ?_ ?_
    rotate_left
    · simp only [Act.put, List.setIfInBounds_toArray, List.set_cons_zero, List.set_cons_succ, i64_w, i32_w]
      rfl
    refine pure_ (i := 10) (N := some 13) (v := undef) (a' := ?_) #[true, true, true, true, true, true, true, true, true, true, true, false, false, false, false, false, false, false, false] rfl rfl (any_of HT_.out (by kernel_rfl)) (fun _ _ _ h => h) (Or.inr ⟨by rfl, rfl⟩) ?_ ?_
    rotate_left
    · simp only [Act.put, List.setIfInBounds_toArray, List.set_cons_zero, List.set_cons_succ, i64_w, i32_w]
      rfl
    refine pure_ (i := 11) (N := some 14) (v := undef) (a' := ?_) #[true, true, true, true, true, true, true, true, true, true, true, true, false, false, false, false, false, false, false] rfl rfl (any_of HT_.out (by kernel_rfl)) (fun _ _ _ h => h) (Or.inr ⟨by rfl, rfl⟩) ?_ ?_
    rotate_left
    · simp only [Act.put, List.setIfInBounds_toArray, List.set_cons_zero, List.set_cons_succ, i64_w, i32_w]
      rfl
    refine pure_ (i := 12) (N := some 15) (v := undef) (a' := ?_) #[true, true, true, true, true, true, true, true, true, true, true, true, true, false, false, false, false, false, false] rfl rfl (any_of HT_.out (by kernel_rfl)) (fun _ _ _ h => h) (Or.inr ⟨by rfl, rfl⟩) ?_ ?_
    rotate_left
    · simp only [Act.put, List.setIfInBounds_toArray, List.set_cons_zero, List.set_cons_succ, i64_w, i32_w]
      rfl
    refine pure_ (i := 13) (N := some 16) (v := undef) (a' := ?_) #[true, true, true, true, true, true, true, true, true, true, true, true, true, true, false, false, false, false, false] rfl rfl (any_of HT_.out (by kernel_rfl)) (fun _ _ _ h => h) (Or.inr ⟨by rfl, rfl⟩) ?_ ?_
    rotate_left
    · simp only [Act.put, List.setIfInBounds_toArray, List.set_cons_zero, List.set_cons_succ, i64_w, i32_w]
      rfl
    refine pure_ (i := 14) (N := some 17) (v := undef) (a' := ?_) #[true, true, true, true, true, true, true, true, true, true, true, true, true, true, true, false, false, false, false] rfl rfl (any_of HT_.out (by kernel_rfl)) (fun _ _ _ h => h) (Or.inr ⟨by rfl, rfl⟩) ?_ ?_
    rotate_left
    · simp only [Act.put, List.setIfInBounds_toArray, List.set_cons_zero, List.set_cons_succ, i64_w, i32_w]
      rfl
    refine pure_ (i := 15) (N := some 18) (v := undef) (a' := ?_) #[true, true, true, true, true, true, true, true, true, true, true, true, true, true, true, true, false, false, false] rfl rfl (any_of HT_.out (by kernel_rfl)) (fun _ _ _ h => h) (Or.inr ⟨by rfl, rfl⟩) ?_ ?_
    rotate_left
    · simp only [Act.put, List.setIfInBounds_toArray, List.set_cons_zero, List.set_cons_succ, i64_w, i32_w]
      rfl
    refine pure_ (i := 16) (N := some 19) (v := undef) (a' := ?_) #[true, true, true, true, true, true, true, true, true, true, true, true, true, true, true, true, true, false, false] rfl rfl (any_of HT_.out (by kernel_rfl)) (fun _ _ _ h => h) (Or.inr ⟨by rfl, rfl⟩) ?_ ?_
    rotate_left
    · simp only [Act.put, List.setIfInBounds_toArray, List.set_cons_zero, List.set_cons_succ, i64_w, i32_w]
      rfl
    refine pv 17 20 HT_ ?_
    refine pv 18 2 HT_ ?_
    refine done_ (done_of HT_.out (by kernel_rfl)) ?_
    try go_wp2
    go_ret
    exact ⟨by first | rfl | (simp [errW_none, errW_some] <;> rfl) | (simp [*, errW_none, errW_some] <;> rfl), by repeat (first | (with_reducible first | exact HB.out | apply below_alloc | apply pw_below_drewN | apply below_drew1 | refine below_set ?_ GE132.out) | exact HB.out)⟩
def laws_rangeFair.f (k : Nat) (a0_0 : Int) (a0_1 : Int) (l0_2 : List (List Int)) : Option (Bool) := (spec_ProperRange.f k a0_0 a0_1 l0_2).bind fun t137 => (if t137 = true then ((laws_logSmall.f k l0_2).bind fun t138 => (some t138)) else (some false))
set_option maxHeartbeats 8000000 in
set_option maxRecDepth 100000 in
theorem laws_rangeFair.calls (k : Nat) (a0_0 : Int) (a0_1 : Int) (A0_2 : Option Addr) (c0_2 : Nat) (l0_2 : List (List Int)) (r : Bool) (w : World) (hr0_2 : Kd.C (Kd.slice 5 (Kd.int .u8)) w A0_2 l0_2.length l0_2) (hc0_2 : l0_2.length ≤ c0_2) (h : laws_rangeFair.f k a0_0 a0_1 l0_2 = some r) :
    Calls Tryd.prog 20 #[.agg #[.int .u64 a0_0, .int .u64 a0_1, .slice A0_2 l0_2.length c0_2]] w fun e w' => e = .returned (.bool r) ∧ Below w.heap.size w w' := by
  have hu35 := Tryd.underlying35
  have HR0_2 := aq hr0_2
  have HC0_2 := aq hc0_2
  clear hr0_2 hc0_2
  have HB := aq (Below.refl w.heap.size w)
  have H : ((spec_ProperRange.f k a0_0 a0_1 l0_2).bind fun t137 => (if t137 = true then ((laws_logSmall.f k l0_2).bind fun t138 => (some t138)) else (some false))) = some r := h
  clear h
  replace H := Option.bind_eq_some_iff.mp H
  obtain ⟨t137, A20, H⟩ := H
  have A2 := aq A20
  clear A20
  by_cases c3 : t137 = true
  · subst c3
    have H1 : ((laws_logSmall.f k l0_2).bind fun t138 => (some t138)) = some r := by rw [if_pos rfl] at H; exact H
    clear H
    have H := H1
    clear H1
    replace H := Option.bind_eq_some_iff.mp H
    obtain ⟨t138, A40, H⟩ := H
    have A4 := aq A40
    clear A40
    obtain rfl := Option.some.inj H
    go_enter Tryd.func20, Tryd.ntmps20
    go_wp2_with (first | ((with_reducible refine gate_dst (N := 1) rfl ?_); refine be 1 #[.int .u64 a0_0, .int .u64 a0_1, .slice A0_2 l0_2.length c0_2] 35 ?_; intro gb136 hg w5 hbox hb; have BK136 := aq (hbox); have GW136 := aq ((by rw [hg]; exact (below_size (bw HB)) : w.heap.size ≤ gb136)); have GE136 := aq ((by rw [hg]; exact (below_size (bw HB)) : w.heap.size ≤ gb136)); replace HB := aq (below_step (bw HB) hb); clear hb hbox hg; have hcz6_0 : w5.cell? ⟨gb136, 0, none⟩ = some (.int .u64 a0_0) := bc BK136 0; have hcz6_1 : w5.cell? ⟨gb136, 1, none⟩ = some (.int .u64 a0_1) := bc BK136 1; have hcz6_2 : w5.cell? ⟨gb136, 2, none⟩ = some (.slice A0_2 l0_2.length c0_2) := bc BK136 2; have hfz6_0 := bz BK136 0; have hfz6_1 := bz BK136 1; have hfz6_2 := bz BK136 2) | ((with_reducible refine gate_callee (f := 52) rfl ?_); refine gL 4 Tryd.func52 #[.agg #[.int .u64 a0_0, .int .u64 a0_1, .slice A0_2 l0_2.length c0_2]] ?_; (with_reducible refine (spec_ProperRange.calls k a0_0 a0_1 _ _ l0_2 true _ ?side1 ?side2 A2.out).mono ?_); (case side1 => repeat (first | exact (Kd.C_below HR0_2.out HB.out) | (with_reducible refine Kd.C_alloc ?_ _) | (with_reducible refine Kd.C_drewN ?_ _) | (with_reducible refine Kd.C_drew ?_))); (case side2 => exact HC0_2.out); rintro e w7 ⟨rfl, hb⟩; refine ⟨_, rfl, ?_⟩; replace BK136 := aq (blk_below (bq BK136) hb); replace HB := aq (below_step (bw HB) hb); (try clear hb); have hcz8_0 : w7.cell? ⟨gb136, 0, none⟩ = some (.int .u64 a0_0) := bc BK136 0; have hcz8_1 : w7.cell? ⟨gb136, 1, none⟩ = some (.int .u64 a0_1) := bc BK136 1; have hcz8_2 : w7.cell? ⟨gb136, 2, none⟩ = some (.slice A0_2 l0_2.length c0_2) := bc BK136 2; have hfz8_0 := bz BK136 0; have hfz8_1 := bz BK136 1; have hfz8_2 := bz BK136 2) | (go_at_call 15; (with_reducible refine (laws_logSmall.calls k _ _ l0_2 t138 _ ?side1 ?side2 A4.out).mono ?_); (case side1 => repeat (first | exact (Kd.C_below HR0_2.out HB.out) | (with_reducible refine Kd.C_alloc ?_ _) | (with_reducible refine Kd.C_drewN ?_ _) | (with_reducible refine Kd.C_drew ?_))); (case side2 => exact HC0_2.out); rintro e w' ⟨rfl, ⟨nd, rfl⟩⟩))
    go_ret
    exact ⟨by first | rfl | (simp [errW_none, errW_some] <;> rfl) | (simp [*, errW_none, errW_some] <;> rfl), by repeat (first | (with_reducible first | exact HB.out | apply below_alloc | apply pw_below_drewN | apply below_drew1 | refine below_set ?_ GE136.out) | exact HB.out)⟩
  · replace c3 := Bool.eq_false_iff.mpr c3
    subst c3
    have H1 : (some false) = some r := by rw [if_neg (show ¬ (false = true) by decide)] at H; exact H
    clear H
    have H := H1
    clear H1
    obtain rfl := Option.some.inj H
    go_enter Tryd.func20, Tryd.ntmps20
    go_wp2_with (first | ((with_reducible refine gate_dst (N := 1) rfl ?_); refine be 1 #[.int .u64 a0_0, .int .u64 a0_1, .slice A0_2 l0_2.length c0_2] 35 ?_; intro gb136 hg w9 hbox hb; have BK136 := aq (hbox); have GW136 := aq ((by rw [hg]; exact (below_size (bw HB)) : w.heap.size ≤ gb136)); have GE136 := aq ((by rw [hg]; exact (below_size (bw HB)) : w.heap.size ≤ gb136)); replace HB := aq (below_step (bw HB) hb); clear hb hbox hg; have hcz10_0 : w9.cell? ⟨gb136, 0, none⟩ = some (.int .u64 a0_0) := bc BK136 0; have hcz10_1 : w9.cell? ⟨gb136, 1, none⟩ = some (.int .u64 a0_1) := bc BK136 1; have hcz10_2 : w9.cell? ⟨gb136, 2, none⟩ = some (.slice A0_2 l0_2.length c0_2) := bc BK136 2; have hfz10_0 := bz BK136 0; have hfz10_1 := bz BK136 1; have hfz10_2 := bz BK136 2) | ((with_reducible refine gate_callee (f := 52) rfl ?_); refine gL 4 Tryd.func52 #[.agg #[.int .u64 a0_0, .int .u64 a0_1, .slice A0_2 l0_2.length c0_2]] ?_; (with_reducible refine (spec_ProperRange.calls k a0_0 a0_1 _ _ l0_2 false _ ?side1 ?side2 A2.out).mono ?_); (case side1 => repeat (first | exact (Kd.C_below HR0_2.out HB.out) | (with_reducible refine Kd.C_alloc ?_ _) | (with_reducible refine Kd.C_drewN ?_ _) | (with_reducible refine Kd.C_drew ?_))); (case side2 => exact HC0_2.out); rintro e w11 ⟨rfl, hb⟩; refine ⟨_, rfl, ?_⟩; replace BK136 := aq (blk_below (bq BK136) hb); replace HB := aq (below_step (bw HB) hb); (try clear hb)))
    go_ret
    exact ⟨by first | rfl | (simp [errW_none, errW_some] <;> rfl) | (simp [*, errW_none, errW_some] <;> rfl), by repeat (first | (with_reducible first | exact HB.out | apply below_alloc | apply pw_below_drewN | apply below_drew1 | refine below_set ?_ GE136.out) | exact HB.out)⟩
def laws_growthNext.l0 : Nat → Int → List (S35) → Int → Int → Option (Bool)
  | 0, _, _, _, _ => none
  | k + 1, x3, x6, x7, x8 => if x8 < x7 then (if 0 ≤ x8 then (if x8 < (x6.length : Int) then ((laws_rangeFair.f k ((rd_T35 x6 x8).f0) ((rd_T35 x6 x8).f1) ((rd_T35 x6 x8).f2)).bind fun t141 => (if t141 = true then (if ((rd_T35 x6 x8).f0) = x3 then (laws_growthNext.l0 k ((rd_T35 x6 x8).f1) x6 x7 (wrap64 (x8 + 1))) else (some false)) else (some false))) else (none)) else (none)) else (some true)
def laws_growthNext.f (k : Nat) (l0 : List (S35)) : Option (Bool) := laws_growthNext.l0 k 0 l0 (l0.length : Int) 0
set_option maxHeartbeats 8000000 in
set_option maxRecDepth 100000 in
theorem laws_growthNext.calls (k : Nat) (A0 : Option Addr) (c0 : Nat) (l0 : List (S35)) (r : Bool) (w : World) (hr0 : Kd.C k35 w A0 l0.length l0) (hc0 : l0.length ≤ c0) (h : laws_growthNext.f k l0 = some r) :
    Calls Tryd.prog 39 #[.slice A0 l0.length c0] w fun e w' => e = .returned (.bool r) ∧ Below w.heap.size w w' := by
  have hu35 := Tryd.underlying35
  have HR0 := aq hr0
  have HC0 := aq hc0
  clear hr0 hc0
  have HB := aq (Below.refl w.heap.size w)
  have H : (laws_growthNext.l0 k 0 l0 (l0.length : Int) 0) = some r := h
  clear h
  have H' := aq H
  clear H
  go_enter Tryd.func39, Tryd.ntmps39
  go_wp2
  (try simp only [Act.put, List.setIfInBounds_toArray, List.set_cons_zero, List.set_cons_succ])
  go_loopg [3, 8] k (fun kq v3 v8 w' => ∃ (x3_1 : Int) (x8_1 : Int), v3 = .int .u64 x3_1 ∧ v8 = .int .i64 x8_1 ∧ Aside0 (laws_growthNext.l0 kq x3_1 l0 (l0.length : Int) x8_1 = some r) ∧ Aside0 (kq ≤ k) ∧ Aside0 (Below w.heap.size w w'))
  case atStart => exact ⟨(0), (0), (by first | rfl | (simp; done) | (simp [*]; done)), (by first | rfl | (simp; done) | (simp [*]; done)), H', ⟨Nat.le_refl _⟩, ⟨by repeat (first | (with_reducible first | exact HB.out | apply below_alloc | apply pw_below_drewN | apply below_drew1) | exact HB.out)⟩⟩
  case round =>
    clear H'
    obtain ⟨x3_1, x8_1, rfl, rfl, HA, HK1, HB⟩ := hrel
    cases gk with
    | zero => exact absurd HA.out (by simp [laws_growthNext.l0])
    | succ k1 =>
      have H := HA.out
      clear HA
      simp only [laws_growthNext.l0] at H
      by_cases c2 : x8_1 < (l0.length : Int)
      · rw [if_pos c2] at H
        have c2b0 : decide (x8_1 < (l0.length : Int)) = true := decide_eq_true c2
        clear c2
        by_cases c3 : 0 ≤ x8_1
        · rw [if_pos c3] at H
          have c3b0 : decide (0 ≤ x8_1) = true := decide_eq_true c3
          clear c3
          by_cases c4 : x8_1 < (l0.length : Int)
          · rw [if_pos c4] at H
            have c4b0 : decide (x8_1 < (l0.length : Int)) = true := decide_eq_true c4
            clear c4
            replace H := Option.bind_eq_some_iff.mp H
            obtain ⟨t141, A50, H⟩ := H
            have A5 := aq A50
            clear A50
            by_cases c6 : t141 = true
            · subst c6
              have H1 : (if ((rd_T35 l0 x8_1).f0) = x3_1 then (laws_growthNext.l0 k1 ((rd_T35 l0 x8_1).f1) l0 (l0.length : Int) (wrap64 (x8_1 + 1))) else (some false)) = some r := by rw [if_pos rfl] at H; exact H
              clear H
              have H := H1
              clear H1
              by_cases c7 : ((rd_T35 l0 x8_1).f0) = x3_1
              · rw [if_pos c7] at H
                have c7b0 : (((rd_T35 l0 x8_1).f0) == x3_1) = true := beq_iff_eq.mpr c7
                have c7b1 : (((rd_T35 l0 x8_1).f0) != x3_1) = false := bne_eq_false_iff_eq.mpr c7
                clear c7
                have H' := aq H
                clear H
                have p139 : 0 ≤ (x8_1 : Int) := of_decide_eq_true (by first | (with_reducible assumption) | assumption)
                have q139 : x8_1 < (l0.length : Int) := of_decide_eq_true (by first | (with_reducible assumption) | assumption)
                obtain ⟨ad139, A139_2, c139_2, e139, hx139_0, hx139_1, hx139_2, hl139_2, hi139_2⟩ := at_T35 HR0.out x8_1 p139 q139
                cases e139
                (try replace hx139_0 := (HB.out.cell (World.block_lt_of_cell? w _ hx139_0)).trans hx139_0)
                (try replace hx139_1 := (HB.out.cell (World.block_lt_of_cell? w _ hx139_1)).trans hx139_1)
                (try replace hx139_2 := (HB.out.cell (World.block_lt_of_cell? w _ hx139_2)).trans hx139_2)
                have HR139_2 := aq hi139_2
                have HC139_2 := aq hl139_2
                clear hi139_2 hl139_2
                replace p139 := eq_true p139
                replace q139 := eq_true q139
                go_wp2_with (first | ((with_reducible refine gate_dst (N := 5) rfl ?_); refine be 5 #[.int .u64 0, .int .u64 0, .slice none 0 0] 35 ?_; intro gb140 hg w8 hbox hb; have BK140 := aq (hbox); have GW140 := aq ((by rw [hg]; exact (below_size (bw HB)) : w.heap.size ≤ gb140)); have GE140 := aq ((by rw [hg]; exact (below_size (bw HB)) : w.heap.size ≤ gb140)); replace HB := aq (below_step (bw HB) hb); clear hb hbox hg; have hcz9_0 : w8.cell? ⟨gb140, 0, none⟩ = some (.int .u64 0) := bc BK140 0; have hcz9_1 : w8.cell? ⟨gb140, 1, none⟩ = some (.int .u64 0) := bc BK140 1; have hcz9_2 : w8.cell? ⟨gb140, 2, none⟩ = some (.slice none 0 0) := bc BK140 2; have hfz9_0 := bz BK140 0; have hfz9_1 := bz BK140 1; have hfz9_2 := bz BK140 2) | ((with_reducible refine gate_callee (f := 20) rfl ?_); refine gL 13 Tryd.func20 #[.agg #[.int .u64 ((rd_T35 l0 x8_1).f0), .int .u64 ((rd_T35 l0 x8_1).f1), .slice A139_2 ((rd_T35 l0 x8_1).f2).length c139_2]] ?_; (with_reducible refine (laws_rangeFair.calls k1 ((rd_T35 l0 x8_1).f0) ((rd_T35 l0 x8_1).f1) _ _ ((rd_T35 l0 x8_1).f2) true _ ?side1 ?side2 A5.out).mono ?_); (case side1 => exact Kd.C_below HR139_2.out (bw HB)); (case side2 => exact HC139_2.out); rintro e w10 ⟨rfl, hb⟩; refine ⟨_, rfl, ?_⟩; replace BK140 := aq (blk_below (g := gb140) (o := .cells #[.int .u64 ((rd_T35 l0 x8_1).f0), .int .u64 ((rd_T35 l0 x8_1).f1), .slice A139_2 ((rd_T35 l0 x8_1).f2).length c139_2] 35 (0, 0)) (by (with_reducible repeat (first | refine blk_drewN ?_ _ | refine blk_drew ?_ | refine blk_alloc ?_ _)); refine blk_put (cs := #[.int .u64 ((rd_T35 l0 x8_1).f0), .int .u64 ((rd_T35 l0 x8_1).f1), .slice none 0 0]) ?_ 2 _ rfl; (with_reducible repeat (first | refine blk_drewN ?_ _ | refine blk_drew ?_ | refine blk_alloc ?_ _)); refine blk_put (cs := #[.int .u64 ((rd_T35 l0 x8_1).f0), .int .u64 0, .slice none 0 0]) ?_ 1 _ rfl; (with_reducible repeat (first | refine blk_drewN ?_ _ | refine blk_drew ?_ | refine blk_alloc ?_ _)); refine blk_put (cs := #[.int .u64 0, .int .u64 0, .slice none 0 0]) ?_ 0 _ rfl; (with_reducible repeat (first | refine blk_drewN ?_ _ | refine blk_drew ?_ | refine blk_alloc ?_ _)); exact BK140.out) hb); replace HB := aq (below_step (bw HB) hb); (try clear hb); have hcz11_0 : w10.cell? ⟨gb140, 0, none⟩ = some (.int .u64 ((rd_T35 l0 x8_1).f0)) := bc BK140 0; have hcz11_1 : w10.cell? ⟨gb140, 1, none⟩ = some (.int .u64 ((rd_T35 l0 x8_1).f1)) := bc BK140 1; have hcz11_2 : w10.cell? ⟨gb140, 2, none⟩ = some (.slice A139_2 ((rd_T35 l0 x8_1).f2).length c139_2) := bc BK140 2; have hfz11_0 := bz BK140 0; have hfz11_1 := bz BK140 1; have hfz11_2 := bz BK140 2))
                go_roundg k1
                case measure => have := HK1.out; omega
                case rel => exact ⟨((rd_T35 l0 x8_1).f1), (wrap64 (x8_1 + 1)), (by first | rfl | (simp; done) | (simp [*]; done)), (by first | rfl | (simp; done) | (simp [*]; done)), H', ⟨by have := HK1.out; omega⟩, ⟨by repeat (first | (with_reducible first | exact HB.out | apply below_alloc | apply pw_below_drewN | apply below_drew1 | refine below_set ?_ GE140.out) | exact HB.out)⟩⟩
              · rw [if_neg c7] at H
                have c7b0 : (((rd_T35 l0 x8_1).f0) == x3_1) = false := beq_eq_false_iff_ne.mpr c7
                have c7b1 : (((rd_T35 l0 x8_1).f0) != x3_1) = true := bne_iff_ne.mpr c7
                obtain rfl := Option.some.inj H
                have p139 : 0 ≤ (x8_1 : Int) := of_decide_eq_true (by first | (with_reducible assumption) | assumption)
                have q139 : x8_1 < (l0.length : Int) := of_decide_eq_true (by first | (with_reducible assumption) | assumption)
                obtain ⟨ad139, A139_2, c139_2, e139, hx139_0, hx139_1, hx139_2, hl139_2, hi139_2⟩ := at_T35 HR0.out x8_1 p139 q139
                cases e139
                (try replace hx139_0 := (HB.out.cell (World.block_lt_of_cell? w _ hx139_0)).trans hx139_0)
                (try replace hx139_1 := (HB.out.cell (World.block_lt_of_cell? w _ hx139_1)).trans hx139_1)
                (try replace hx139_2 := (HB.out.cell (World.block_lt_of_cell? w _ hx139_2)).trans hx139_2)
                have HR139_2 := aq hi139_2
                have HC139_2 := aq hl139_2
                clear hi139_2 hl139_2
                replace p139 := eq_true p139
                replace q139 := eq_true q139
                go_wp2_with (first | ((with_reducible refine gate_dst (N := 5) rfl ?_); refine be 5 #[.int .u64 0, .int .u64 0, .slice none 0 0] 35 ?_; intro gb140 hg w12 hbox hb; have BK140 := aq (hbox); have GW140 := aq ((by rw [hg]; exact (below_size (bw HB)) : w.heap.size ≤ gb140)); have GE140 := aq ((by rw [hg]; exact (below_size (bw HB)) : w.heap.size ≤ gb140)); replace HB := aq (below_step (bw HB) hb); clear hb hbox hg; have hcz13_0 : w12.cell? ⟨gb140, 0, none⟩ = some (.int .u64 0) := bc BK140 0; have hcz13_1 : w12.cell? ⟨gb140, 1, none⟩ = some (.int .u64 0) := bc BK140 1; have hcz13_2 : w12.cell? ⟨gb140, 2, none⟩ = some (.slice none 0 0) := bc BK140 2; have hfz13_0 := bz BK140 0; have hfz13_1 := bz BK140 1; have hfz13_2 := bz BK140 2) | ((with_reducible refine gate_callee (f := 20) rfl ?_); refine gL 13 Tryd.func20 #[.agg #[.int .u64 ((rd_T35 l0 x8_1).f0), .int .u64 ((rd_T35 l0 x8_1).f1), .slice A139_2 ((rd_T35 l0 x8_1).f2).length c139_2]] ?_; (with_reducible refine (laws_rangeFair.calls k1 ((rd_T35 l0 x8_1).f0) ((rd_T35 l0 x8_1).f1) _ _ ((rd_T35 l0 x8_1).f2) true _ ?side1 ?side2 A5.out).mono ?_); (case side1 => exact Kd.C_below HR139_2.out (bw HB)); (case side2 => exact HC139_2.out); rintro e w14 ⟨rfl, hb⟩; refine ⟨_, rfl, ?_⟩; replace BK140 := aq (blk_below (g := gb140) (o := .cells #[.int .u64 ((rd_T35 l0 x8_1).f0), .int .u64 ((rd_T35 l0 x8_1).f1), .slice A139_2 ((rd_T35 l0 x8_1).f2).length c139_2] 35 (0, 0)) (by (with_reducible repeat (first | refine blk_drewN ?_ _ | refine blk_drew ?_ | refine blk_alloc ?_ _)); refine blk_put (cs := #[.int .u64 ((rd_T35 l0 x8_1).f0), .int .u64 ((rd_T35 l0 x8_1).f1), .slice none 0 0]) ?_ 2 _ rfl; (with_reducible repeat (first | refine blk_drewN ?_ _ | refine blk_drew ?_ | refine blk_alloc ?_ _)); refine blk_put (cs := #[.int .u64 ((rd_T35 l0 x8_1).f0), .int .u64 0, .slice none 0 0]) ?_ 1 _ rfl; (with_reducible repeat (first | refine blk_drewN ?_ _ | refine blk_drew ?_ | refine blk_alloc ?_ _)); refine blk_put (cs := #[.int .u64 0, .int .u64 0, .slice none 0 0]) ?_ 0 _ rfl; (with_reducible repeat (first | refine blk_drewN ?_ _ | refine blk_drew ?_ | refine blk_alloc ?_ _)); exact BK140.out) hb); replace HB := aq (below_step (bw HB) hb); (try clear hb); have hcz15_0 : w14.cell? ⟨gb140, 0, none⟩ = some (.int .u64 ((rd_T35 l0 x8_1).f0)) := bc BK140 0; have hcz15_1 : w14.cell? ⟨gb140, 1, none⟩ = some (.int .u64 ((rd_T35 l0 x8_1).f1)) := bc BK140 1; have hcz15_2 : w14.cell? ⟨gb140, 2, none⟩ = some (.slice A139_2 ((rd_T35 l0 x8_1).f2).length c139_2) := bc BK140 2; have hfz15_0 := bz BK140 0; have hfz15_1 := bz BK140 1; have hfz15_2 := bz BK140 2))
                go_ret
                exact ⟨by first | rfl | (simp [errW_none, errW_some] <;> rfl) | (simp [*, errW_none, errW_some] <;> rfl), by repeat (first | (with_reducible first | exact HB.out | apply below_alloc | apply pw_below_drewN | apply below_drew1 | refine below_set ?_ GE140.out) | exact HB.out)⟩
            · replace c6 := Bool.eq_false_iff.mpr c6
              subst c6
              have H1 : (some false) = some r := by rw [if_neg (show ¬ (false = true) by decide)] at H; exact H
              clear H
              have H := H1
              clear H1
              obtain rfl := Option.some.inj H
              have p139 : 0 ≤ (x8_1 : Int) := of_decide_eq_true (by first | (with_reducible assumption) | assumption)
              have q139 : x8_1 < (l0.length : Int) := of_decide_eq_true (by first | (with_reducible assumption) | assumption)
              obtain ⟨ad139, A139_2, c139_2, e139, hx139_0, hx139_1, hx139_2, hl139_2, hi139_2⟩ := at_T35 HR0.out x8_1 p139 q139
              cases e139
              (try replace hx139_0 := (HB.out.cell (World.block_lt_of_cell? w _ hx139_0)).trans hx139_0)
              (try replace hx139_1 := (HB.out.cell (World.block_lt_of_cell? w _ hx139_1)).trans hx139_1)
              (try replace hx139_2 := (HB.out.cell (World.block_lt_of_cell? w _ hx139_2)).trans hx139_2)
              have HR139_2 := aq hi139_2
              have HC139_2 := aq hl139_2
              clear hi139_2 hl139_2
              replace p139 := eq_true p139
              replace q139 := eq_true q139
              go_wp2_with (first | ((with_reducible refine gate_dst (N := 5) rfl ?_); refine be 5 #[.int .u64 0, .int .u64 0, .slice none 0 0] 35 ?_; intro gb140 hg w16 hbox hb; have BK140 := aq (hbox); have GW140 := aq ((by rw [hg]; exact (below_size (bw HB)) : w.heap.size ≤ gb140)); have GE140 := aq ((by rw [hg]; exact (below_size (bw HB)) : w.heap.size ≤ gb140)); replace HB := aq (below_step (bw HB) hb); clear hb hbox hg; have hcz17_0 : w16.cell? ⟨gb140, 0, none⟩ = some (.int .u64 0) := bc BK140 0; have hcz17_1 : w16.cell? ⟨gb140, 1, none⟩ = some (.int .u64 0) := bc BK140 1; have hcz17_2 : w16.cell? ⟨gb140, 2, none⟩ = some (.slice none 0 0) := bc BK140 2; have hfz17_0 := bz BK140 0; have hfz17_1 := bz BK140 1; have hfz17_2 := bz BK140 2) | ((with_reducible refine gate_callee (f := 20) rfl ?_); refine gL 13 Tryd.func20 #[.agg #[.int .u64 ((rd_T35 l0 x8_1).f0), .int .u64 ((rd_T35 l0 x8_1).f1), .slice A139_2 ((rd_T35 l0 x8_1).f2).length c139_2]] ?_; (with_reducible refine (laws_rangeFair.calls k1 ((rd_T35 l0 x8_1).f0) ((rd_T35 l0 x8_1).f1) _ _ ((rd_T35 l0 x8_1).f2) false _ ?side1 ?side2 A5.out).mono ?_); (case side1 => exact Kd.C_below HR139_2.out (bw HB)); (case side2 => exact HC139_2.out); rintro e w18 ⟨rfl, hb⟩; refine ⟨_, rfl, ?_⟩; replace BK140 := aq (blk_below (g := gb140) (o := .cells #[.int .u64 ((rd_T35 l0 x8_1).f0), .int .u64 ((rd_T35 l0 x8_1).f1), .slice A139_2 ((rd_T35 l0 x8_1).f2).length c139_2] 35 (0, 0)) (by (with_reducible repeat (first | refine blk_drewN ?_ _ | refine blk_drew ?_ | refine blk_alloc ?_ _)); refine blk_put (cs := #[.int .u64 ((rd_T35 l0 x8_1).f0), .int .u64 ((rd_T35 l0 x8_1).f1), .slice none 0 0]) ?_ 2 _ rfl; (with_reducible repeat (first | refine blk_drewN ?_ _ | refine blk_drew ?_ | refine blk_alloc ?_ _)); refine blk_put (cs := #[.int .u64 ((rd_T35 l0 x8_1).f0), .int .u64 0, .slice none 0 0]) ?_ 1 _ rfl; (with_reducible repeat (first | refine blk_drewN ?_ _ | refine blk_drew ?_ | refine blk_alloc ?_ _)); refine blk_put (cs := #[.int .u64 0, .int .u64 0, .slice none 0 0]) ?_ 0 _ rfl; (with_reducible repeat (first | refine blk_drewN ?_ _ | refine blk_drew ?_ | refine blk_alloc ?_ _)); exact BK140.out) hb); replace HB := aq (below_step (bw HB) hb); (try clear hb)))
              go_ret
              exact ⟨by first | rfl | (simp [errW_none, errW_some] <;> rfl) | (simp [*, errW_none, errW_some] <;> rfl), by repeat (first | (with_reducible first | exact HB.out | apply below_alloc | apply pw_below_drewN | apply below_drew1 | refine below_set ?_ GE140.out) | exact HB.out)⟩
          · rw [if_neg c4] at H
            exact absurd H (by simp)
        · rw [if_neg c3] at H
          exact absurd H (by simp)
      · rw [if_neg c2] at H
        have c2b0 : decide (x8_1 < (l0.length : Int)) = false := decide_eq_false c2
        clear c2
        obtain rfl := Option.some.inj H
        go_wp2
        go_ret
        exact ⟨by first | rfl | (simp [errW_none, errW_some] <;> rfl) | (simp [*, errW_none, errW_some] <;> rfl), by repeat (first | (with_reducible first | exact HB.out | apply below_alloc | apply pw_below_drewN | apply below_drew1) | exact HB.out)⟩
def compact_Decompose.f (a0 : Int) (a1 : Int) : Option (Int × Int) := if a0 = 0 then (some (0, a1)) else ((bits_Len64.f (Go.bits .xor .u64 (IntKind.u64.wrap (a0 - 1)) a1)).bind fun t142 => (if 0 ≤ (IntKind.u64.wrap (wrap64 (t142 - 1))) then (some (Go.bits .and .u64 (Go.bits .xor .u64 18446744073709551615 (IntKind.u64.wrap (a0 - 1))) (IntKind.u64.wrap ((shl .u64 1 (IntKind.u64.wrap (wrap64 (t142 - 1)))) - 1)), Go.bits .and .u64 a1 (IntKind.u64.wrap ((shl .u64 1 (IntKind.u64.wrap (wrap64 (t142 - 1)))) - 1)))) else (none)))
set_option maxHeartbeats 8000000 in
set_option maxRecDepth 100000 in
theorem compact_Decompose.calls (a0 : Int) (a1 : Int) (r1 : Int) (r2 : Int) (w : World) (h : compact_Decompose.f a0 a1 = some (r1, r2)) :
    Calls Tryd.prog 112 #[.int .u64 a0, .int .u64 a1] w fun e w' => e = .returned (.tuple #[.int .u64 r1, .int .u64 r2]) ∧ Drawn0 w w' := by
  have H : (if a0 = 0 then (some (0, a1)) else ((bits_Len64.f (Go.bits .xor .u64 (IntKind.u64.wrap (a0 - 1)) a1)).bind fun t142 => (if 0 ≤ (IntKind.u64.wrap (wrap64 (t142 - 1))) then (some (Go.bits .and .u64 (Go.bits .xor .u64 18446744073709551615 (IntKind.u64.wrap (a0 - 1))) (IntKind.u64.wrap ((shl .u64 1 (IntKind.u64.wrap (wrap64 (t142 - 1)))) - 1)), Go.bits .and .u64 a1 (IntKind.u64.wrap ((shl .u64 1 (IntKind.u64.wrap (wrap64 (t142 - 1)))) - 1)))) else (none)))) = some (r1, r2) := h
  clear h
  by_cases c3 : a0 = 0
  · rw [if_pos c3] at H
    have c3b0 : (a0 == 0) = true := beq_iff_eq.mpr c3
    have c3b1 : (a0 != 0) = false := bne_eq_false_iff_eq.mpr c3
    clear c3
    simp only [Option.some.injEq, Prod.mk.injEq] at H
    obtain ⟨rfl, rfl⟩ := H
    go_enter Tryd.func112, Tryd.ntmps112
    go_wp2
    go_ret2
    exact ⟨by first | rfl | (simp; done) | (simp [*]; done), by repeat (first | exact Drawn0.refl _ | apply Drawn0.step)⟩
  · rw [if_neg c3] at H
    have c3b0 : (a0 == 0) = false := beq_eq_false_iff_ne.mpr c3
    have c3b1 : (a0 != 0) = true := bne_iff_ne.mpr c3
    replace H := Option.bind_eq_some_iff.mp H
    obtain ⟨t142, A40, H⟩ := H
    have A4 := aq A40
    clear A40
    obtain ⟨ji5, hji5⟩ : ∃ j_ : Int, (IntKind.u64.wrap (wrap64 (t142 - 1))) = j_ := ⟨_, rfl⟩
    first | rw [hji5] at H | simp only [hji5] at H
    (try rw [hji5] at A4)
    by_cases c6 : 0 ≤ (ji5)
    · rw [if_pos c6] at H
      have c6b0 := eq_true c6
      have c6b1 : decide (0 ≤ (ji5)) = true := decide_eq_true c6
      clear c6
      obtain ⟨ji7, hji7⟩ : ∃ j_ : Int, (shl .u64 1 (ji5)) = j_ := ⟨_, rfl⟩
      first | rw [hji7] at H | simp only [hji7] at H
      (try rw [hji7] at A4)
      have hji7_ : (IntKind.u64.wrap (1 * 2 ^ min (ji5).toNat 64)) = ji7 := hji7
      have hji7z : (ji5) ≤ 64 → (IntKind.u64.wrap (1 * 2 ^ (ji5).toNat)) = ji7 := shl_small hji7
      have hji7u : (IntKind.u64.wrap (2 ^ min (ji5).toNat 64)) = ji7 := by have h_ := hji7_; rw [Int.one_mul] at h_; exact h_
      have hji7v : (ji5) ≤ 64 → (IntKind.u64.wrap (2 ^ (ji5).toNat)) = ji7 := fun hle_ => by have h_ := hji7z hle_; rw [Int.one_mul] at h_; exact h_
      simp only [Option.some.injEq, Prod.mk.injEq] at H
      obtain ⟨rfl, rfl⟩ := H
      go_enter Tryd.func112, Tryd.ntmps112
      go_wp2_with (first | ((with_reducible refine gate_callee (f := 116) rfl ?_); refine gL 17 Tryd.func116 #[.int .u64 (Go.bits .xor .u64 (IntKind.u64.wrap (a0 - 1)) a1)] ?_; (with_reducible refine (bits_Len64.calls (Go.bits .xor .u64 (IntKind.u64.wrap (a0 - 1)) a1) t142 _ A4.out).mono ?_); rintro e w' ⟨rfl, ⟨nd, rfl⟩⟩; refine ⟨_, rfl, ?_⟩))
      go_ret2
      exact ⟨by first | rfl | (simp; done) | (simp only [← hji5, ← hji7] <;> (first | rfl | simp)) | (simp [*]; done), by repeat (first | exact Drawn0.refl _ | apply Drawn0.step)⟩
    · rw [if_neg c6] at H
      exact absurd H (by simp)
def compact_RangeSize.f (a0 : Int) (a1 : Int) : Option (Int) := (compact_Decompose.f a0 a1).bind fun bt143 => ((bits_OnesCount64.f bt143.1).bind fun t145 => ((bits_OnesCount64.f bt143.2).bind fun t146 => (some (wrap64 (t145 + t146)))))
set_option maxHeartbeats 8000000 in
set_option maxRecDepth 100000 in
theorem compact_RangeSize.calls (a0 : Int) (a1 : Int) (r : Int) (w : World) (h : compact_RangeSize.f a0 a1 = some r) :
    Calls Tryd.prog 88 #[.int .u64 a0, .int .u64 a1] w fun e w' => e = .returned (.int .i64 r) ∧ Drawn0 w w' := by
  have H : ((compact_Decompose.f a0 a1).bind fun bt143 => ((bits_OnesCount64.f bt143.1).bind fun t145 => ((bits_OnesCount64.f bt143.2).bind fun t146 => (some (wrap64 (t145 + t146)))))) = some r := h
  clear h
  replace H := Option.bind_eq_some_iff.mp H
  obtain ⟨⟨t143, t144⟩, A30, H⟩ := H
  have A3 := aq A30
  clear A30
  replace H := Option.bind_eq_some_iff.mp H
  obtain ⟨t145, A40, H⟩ := H
  have A4 := aq A40
  clear A40
  replace H := Option.bind_eq_some_iff.mp H
  obtain ⟨t146, A50, H⟩ := H
  have A5 := aq A50
  clear A50
  obtain rfl := Option.some.inj H
  go_enter Tryd.func88, Tryd.ntmps88
  go_wp2_with (first | ((with_reducible refine gate_callee (f := 112) rfl ?_); refine gL 10 Tryd.func112 #[.int .u64 a0, .int .u64 a1] ?_; (with_reducible refine (compact_Decompose.calls a0 a1 t143 t144 _ A3.out).mono ?_); rintro e w' ⟨rfl, ⟨nd, rfl⟩⟩; refine ⟨_, rfl, ?_⟩) | ((with_reducible refine gate_callee (f := 113) rfl ?_); refine gL 14 Tryd.func113 #[.int .u64 t143] ?_; (with_reducible refine (bits_OnesCount64.calls t143 t145 _ A4.out).mono ?_); rintro e w' ⟨rfl, ⟨nd, rfl⟩⟩; refine ⟨_, rfl, ?_⟩) | ((with_reducible refine gate_callee (f := 113) rfl ?_); refine gL 16 Tryd.func113 #[.int .u64 t144] ?_; (with_reducible refine (bits_OnesCount64.calls t144 t146 _ A5.out).mono ?_); rintro e w' ⟨rfl, ⟨nd, rfl⟩⟩; refine ⟨_, rfl, ?_⟩))
  go_ret
  exact ⟨by first | rfl | (simp; done) | (simp [*]; done), by repeat (first | exact Drawn0.refl _ | apply Drawn0.step)⟩
def bits_TrailingZeros64.f (a0 : Int) : Option (Int) := if 0 ≤ a0 then (if a0 ≤ 18446744073709551615 then some ((Lib.ctz 64 a0.toNat : Nat) : Int) else none) else none
theorem bits_TrailingZeros64.calls (a0 : Int) (r : Int) (w : World) (HG_ : Glob w) (h : bits_TrailingZeros64.f a0 = some r) :
    Calls Tryd.prog 89 #[.int .u64 a0] w fun e w' => e = .returned (.int .i64 r) ∧ Drawn0 w w' := by
  unfold bits_TrailingZeros64.f at h
  by_cases c0 : 0 ≤ a0
  · rw [if_pos c0] at h
    by_cases c1 : a0 ≤ 18446744073709551615
    · rw [if_pos c1] at h
      obtain rfl := Option.some.inj h
      obtain ⟨n, rfl⟩ := Int.eq_ofNat_of_zero_le c0
      rw [Int.toNat_natCast]
      refine (Tryd.bits_TrailingZeros64 n (by omega) w (fun _ => HG_)).mono ?_
      rintro e w' ⟨rfl, rfl⟩
      exact ⟨rfl, Drawn0.refl _⟩
    · rw [if_neg c1] at h; exact absurd h (by simp)
  · rw [if_neg c0] at h; exact absurd h (by simp)
def compact_NewNodeID.f (a0 : Int) (a1 : Int) : Option (Int × Int) := some (a0, a1)
set_option maxHeartbeats 8000000 in
set_option maxRecDepth 100000 in
theorem compact_NewNodeID.calls (a0 : Int) (a1 : Int) (r1 : Int) (r2 : Int) (w : World) (h : compact_NewNodeID.f a0 a1 = some (r1, r2)) :
    Calls Tryd.prog 90 #[.int .u64 a0, .int .u64 a1] w fun e w' => e = .returned (.agg #[.int .u64 r1, .int .u64 r2]) ∧ Below w.heap.size w w' := by
  have hu108 := Tryd.underlying108
  have HB := aq (Below.refl w.heap.size w)
  have H : (some (a0, a1)) = some (r1, r2) := h
  clear h
  simp only [Option.some.injEq, Prod.mk.injEq] at H
  obtain ⟨rfl, rfl⟩ := H
  go_enter Tryd.func90, Tryd.ntmps90
  go_wp2_with (first | ((with_reducible refine gate_dst (N := 4) rfl ?_); refine be 4 #[.int .u64 0, .int .u64 0] 108 ?_; intro gb147 hg w3 hbox hb; have BK147 := aq (hbox); have GW147 := aq ((by rw [hg]; exact (below_size (bw HB)) : w.heap.size ≤ gb147)); have GE147 := aq ((by rw [hg]; exact (below_size (bw HB)) : w.heap.size ≤ gb147)); replace HB := aq (below_step (bw HB) hb); clear hb hbox hg; have hcz4_0 : w3.cell? ⟨gb147, 0, none⟩ = some (.int .u64 0) := bc BK147 0; have hcz4_1 : w3.cell? ⟨gb147, 1, none⟩ = some (.int .u64 0) := bc BK147 1; have hfz4_0 := bz BK147 0; have hfz4_1 := bz BK147 1))
  refine bodyPost_ret (results_cell_row rfl _ _ gb147 108 #[.int .u64 a0, .int .u64 a1] (0, 0) _ rfl (by (with_reducible repeat (first | refine blk_drewN ?_ _ | refine blk_drew ?_ | refine blk_alloc ?_ _)); refine blk_put (cs := #[.int .u64 a0, .int .u64 0]) ?_ 1 _ rfl; (with_reducible repeat (first | refine blk_drewN ?_ _ | refine blk_drew ?_ | refine blk_alloc ?_ _)); refine blk_put (cs := #[.int .u64 0, .int .u64 0]) ?_ 0 _ rfl; (with_reducible repeat (first | refine blk_drewN ?_ _ | refine blk_drew ?_ | refine blk_alloc ?_ _)); exact BK147.out) Tryd.underlying108 rfl (by kernel_rfl)) rfl ?_
  exact ⟨by first | rfl | (simp [errW_none, errW_some] <;> rfl) | (simp [*, errW_none, errW_some] <;> rfl), by repeat (first | (with_reducible first | exact HB.out | apply below_alloc | apply pw_below_drewN | apply below_drew1 | refine below_set ?_ GE147.out) | exact HB.out)⟩
def compact_getMergePath.f (a0 : Int) (a1 : Int) (a2 : Int) : Option (Int × Int) := (bits_TrailingZeros64.f a1).bind fun t150 => (if a0 = 0 then ((bits_Len64.f (Go.bits .xor .u64 (IntKind.u64.wrap (a1 - 1)) a2)).bind fun t151 => (if t151 < 64 then (some (IntKind.u64.wrap (t150), IntKind.u64.wrap (wrap64 (t151 - 1)))) else (some (IntKind.u64.wrap (t150), 64 - 1)))) else ((bits_Len64.f (Go.bits .xor .u64 a1 (IntKind.u64.wrap (a0 - 1)))).bind fun t152 => ((bits_Len64.f (Go.bits .xor .u64 (IntKind.u64.wrap (a1 - 1)) a2)).bind fun t153 => (if t153 < t152 then (some (IntKind.u64.wrap (t150), IntKind.u64.wrap (wrap64 (t153 - 1)))) else (some (IntKind.u64.wrap (t150), IntKind.u64.wrap (wrap64 (t152 - 1))))))))
set_option maxHeartbeats 8000000 in
set_option maxRecDepth 100000 in
theorem compact_getMergePath.calls (a0 : Int) (a1 : Int) (a2 : Int) (r1 : Int) (r2 : Int) (w : World) (HG_ : Glob w) (h : compact_getMergePath.f a0 a1 a2 = some (r1, r2)) :
    Calls Tryd.prog 115 #[.int .u64 a0, .int .u64 a1, .int .u64 a2] w fun e w' => e = .returned (.tuple #[.int .u64 r1, .int .u64 r2]) ∧ Drawn0 w w' := by
  have HG := aq HG_
  clear HG_
  have H : ((bits_TrailingZeros64.f a1).bind fun t150 => (if a0 = 0 then ((bits_Len64.f (Go.bits .xor .u64 (IntKind.u64.wrap (a1 - 1)) a2)).bind fun t151 => (if t151 < 64 then (some (IntKind.u64.wrap (t150), IntKind.u64.wrap (wrap64 (t151 - 1)))) else (some (IntKind.u64.wrap (t150), 64 - 1)))) else ((bits_Len64.f (Go.bits .xor .u64 a1 (IntKind.u64.wrap (a0 - 1)))).bind fun t152 => ((bits_Len64.f (Go.bits .xor .u64 (IntKind.u64.wrap (a1 - 1)) a2)).bind fun t153 => (if t153 < t152 then (some (IntKind.u64.wrap (t150), IntKind.u64.wrap (wrap64 (t153 - 1)))) else (some (IntKind.u64.wrap (t150), IntKind.u64.wrap (wrap64 (t152 - 1))))))))) = some (r1, r2) := h
  clear h
  replace H := Option.bind_eq_some_iff.mp H
  obtain ⟨t150, A40, H⟩ := H
  have A4 := aq A40
  clear A40
  by_cases c5 : a0 = 0
  · rw [if_pos c5] at H
    have c5b0 : (a0 == 0) = true := beq_iff_eq.mpr c5
    have c5b1 : (a0 != 0) = false := bne_eq_false_iff_eq.mpr c5
    clear c5
    replace H := Option.bind_eq_some_iff.mp H
    obtain ⟨t151, A60, H⟩ := H
    have A6 := aq A60
    clear A60
    by_cases c7 : t151 < 64
    · rw [if_pos c7] at H
      have c7b0 : decide (t151 < 64) = true := decide_eq_true c7
      clear c7
      simp only [Option.some.injEq, Prod.mk.injEq] at H
      obtain ⟨rfl, rfl⟩ := H
      go_enter Tryd.func115, Tryd.ntmps115
      go_wp2_with (first | ((with_reducible refine gate_callee (f := 89) rfl ?_); refine gL 12 Tryd.func89 #[.int .u64 a1] ?_; (with_reducible refine (bits_TrailingZeros64.calls a1 t150 _ ?side1 A4.out).mono ?_); (case side1 => first | exact HG.out | exact Glob.drewN HG.out _ | exact Glob.below HG.out (bw HB)); rintro e w' ⟨rfl, ⟨nd, rfl⟩⟩; refine ⟨_, rfl, ?_⟩) | ((with_reducible refine gate_callee (f := 116) rfl ?_); refine gL 24 Tryd.func116 #[.int .u64 (Go.bits .xor .u64 (IntKind.u64.wrap (a1 - 1)) a2)] ?_; (with_reducible refine (bits_Len64.calls (Go.bits .xor .u64 (IntKind.u64.wrap (a1 - 1)) a2) t151 _ A6.out).mono ?_); rintro e w' ⟨rfl, ⟨nd, rfl⟩⟩; refine ⟨_, rfl, ?_⟩))
      go_ret2
      exact ⟨by first | rfl | (simp; done) | (simp [*]; done), by repeat (first | exact Drawn0.refl _ | apply Drawn0.step)⟩
    · rw [if_neg c7] at H
      have c7b0 : decide (t151 < 64) = false := decide_eq_false c7
      clear c7
      simp only [Option.some.injEq, Prod.mk.injEq] at H
      obtain ⟨rfl, rfl⟩ := H
      go_enter Tryd.func115, Tryd.ntmps115
      go_wp2_with (first | ((with_reducible refine gate_callee (f := 89) rfl ?_); refine gL 12 Tryd.func89 #[.int .u64 a1] ?_; (with_reducible refine (bits_TrailingZeros64.calls a1 t150 _ ?side1 A4.out).mono ?_); (case side1 => first | exact HG.out | exact Glob.drewN HG.out _ | exact Glob.below HG.out (bw HB)); rintro e w' ⟨rfl, ⟨nd, rfl⟩⟩; refine ⟨_, rfl, ?_⟩) | ((with_reducible refine gate_callee (f := 116) rfl ?_); refine gL 24 Tryd.func116 #[.int .u64 (Go.bits .xor .u64 (IntKind.u64.wrap (a1 - 1)) a2)] ?_; (with_reducible refine (bits_Len64.calls (Go.bits .xor .u64 (IntKind.u64.wrap (a1 - 1)) a2) t151 _ A6.out).mono ?_); rintro e w' ⟨rfl, ⟨nd, rfl⟩⟩; refine ⟨_, rfl, ?_⟩))
      go_ret2
      exact ⟨by first | rfl | (simp; done) | (simp [*]; done), by repeat (first | exact Drawn0.refl _ | apply Drawn0.step)⟩
  · rw [if_neg c5] at H
    have c5b0 : (a0 == 0) = false := beq_eq_false_iff_ne.mpr c5
    have c5b1 : (a0 != 0) = true := bne_iff_ne.mpr c5
    replace H := Option.bind_eq_some_iff.mp H
    obtain ⟨t152, A80, H⟩ := H
    have A8 := aq A80
    clear A80
    replace H := Option.bind_eq_some_iff.mp H
    obtain ⟨t153, A90, H⟩ := H
    have A9 := aq A90
    clear A90
    by_cases c10 : t153 < t152
    · rw [if_pos c10] at H
      have c10b0 : decide (t153 < t152) = true := decide_eq_true c10
      clear c10
      simp only [Option.some.injEq, Prod.mk.injEq] at H
      obtain ⟨rfl, rfl⟩ := H
      go_enter Tryd.func115, Tryd.ntmps115
      go_wp2_with (first | ((with_reducible refine gate_callee (f := 89) rfl ?_); refine gL 12 Tryd.func89 #[.int .u64 a1] ?_; (with_reducible refine (bits_TrailingZeros64.calls a1 t150 _ ?side1 A4.out).mono ?_); (case side1 => first | exact HG.out | exact Glob.drewN HG.out _ | exact Glob.below HG.out (bw HB)); rintro e w' ⟨rfl, ⟨nd, rfl⟩⟩; refine ⟨_, rfl, ?_⟩) | ((with_reducible refine gate_callee (f := 116) rfl ?_); refine gL 19 Tryd.func116 #[.int .u64 (Go.bits .xor .u64 a1 (IntKind.u64.wrap (a0 - 1)))] ?_; (with_reducible refine (bits_Len64.calls (Go.bits .xor .u64 a1 (IntKind.u64.wrap (a0 - 1))) t152 _ A8.out).mono ?_); rintro e w' ⟨rfl, ⟨nd, rfl⟩⟩; refine ⟨_, rfl, ?_⟩) | ((with_reducible refine gate_callee (f := 116) rfl ?_); refine gL 24 Tryd.func116 #[.int .u64 (Go.bits .xor .u64 (IntKind.u64.wrap (a1 - 1)) a2)] ?_; (with_reducible refine (bits_Len64.calls (Go.bits .xor .u64 (IntKind.u64.wrap (a1 - 1)) a2) t153 _ A9.out).mono ?_); rintro e w' ⟨rfl, ⟨nd, rfl⟩⟩; refine ⟨_, rfl, ?_⟩))
      go_ret2
      exact ⟨by first | rfl | (simp; done) | (simp [*]; done), by repeat (first | exact Drawn0.refl _ | apply Drawn0.step)⟩
    · rw [if_neg c10] at H
      have c10b0 : decide (t153 < t152) = false := decide_eq_false c10
      clear c10
      simp only [Option.some.injEq, Prod.mk.injEq] at H
      obtain ⟨rfl, rfl⟩ := H
      go_enter Tryd.func115, Tryd.ntmps115
      go_wp2_with (first | ((with_reducible refine gate_callee (f := 89) rfl ?_); refine gL 12 Tryd.func89 #[.int .u64 a1] ?_; (with_reducible refine (bits_TrailingZeros64.calls a1 t150 _ ?side1 A4.out).mono ?_); (case side1 => first | exact HG.out | exact Glob.drewN HG.out _ | exact Glob.below HG.out (bw HB)); rintro e w' ⟨rfl, ⟨nd, rfl⟩⟩; refine ⟨_, rfl, ?_⟩) | ((with_reducible refine gate_callee (f := 116) rfl ?_); refine gL 19 Tryd.func116 #[.int .u64 (Go.bits .xor .u64 a1 (IntKind.u64.wrap (a0 - 1)))] ?_; (with_reducible refine (bits_Len64.calls (Go.bits .xor .u64 a1 (IntKind.u64.wrap (a0 - 1))) t152 _ A8.out).mono ?_); rintro e w' ⟨rfl, ⟨nd, rfl⟩⟩; refine ⟨_, rfl, ?_⟩) | ((with_reducible refine gate_callee (f := 116) rfl ?_); refine gL 24 Tryd.func116 #[.int .u64 (Go.bits .xor .u64 (IntKind.u64.wrap (a1 - 1)) a2)] ?_; (with_reducible refine (bits_Len64.calls (Go.bits .xor .u64 (IntKind.u64.wrap (a1 - 1)) a2) t153 _ A9.out).mono ?_); rintro e w' ⟨rfl, ⟨nd, rfl⟩⟩; refine ⟨_, rfl, ?_⟩))
      go_ret2
      exact ⟨by first | rfl | (simp; done) | (simp [*]; done), by repeat (first | exact Drawn0.refl _ | apply Drawn0.step)⟩
def compact_NodeID_Parent.f (a0_0 : Int) (a0_1 : Int) : Option (Int × Int) := (compact_NewNodeID.f (IntKind.u64.wrap (a0_0 + 1)) (a0_1 / 2)).bind fun bt174 => (some (bt174.1, bt174.2))
set_option maxHeartbeats 8000000 in
set_option maxRecDepth 100000 in
theorem compact_NodeID_Parent.calls (a0_0 : Int) (a0_1 : Int) (r1 : Int) (r2 : Int) (w : World) (h : compact_NodeID_Parent.f a0_0 a0_1 = some (r1, r2)) :
    Calls Tryd.prog 68 #[.agg #[.int .u64 a0_0, .int .u64 a0_1]] w fun e w' => e = .returned (.agg #[.int .u64 r1, .int .u64 r2]) ∧ Below w.heap.size w w' := by
  have hu108 := Tryd.underlying108
  have HB := aq (Below.refl w.heap.size w)
  have H : ((compact_NewNodeID.f (IntKind.u64.wrap (a0_0 + 1)) (a0_1 / 2)).bind fun bt174 => (some (bt174.1, bt174.2))) = some (r1, r2) := h
  clear h
  replace H := Option.bind_eq_some_iff.mp H
  obtain ⟨⟨t174, t175⟩, A20, H⟩ := H
  have A2 := aq A20
  clear A20
  simp only [Option.some.injEq, Prod.mk.injEq] at H
  obtain ⟨rfl, rfl⟩ := H
  go_enter Tryd.func68, Tryd.ntmps68
  go_wp2_with (first | ((with_reducible refine gate_dst (N := 1) rfl ?_); refine be 1 #[.int .u64 a0_0, .int .u64 a0_1] 108 ?_; intro gb172 hg w3 hbox hb; have BK172 := aq (hbox); have GW172 := aq ((by rw [hg]; exact (below_size (bw HB)) : w.heap.size ≤ gb172)); have GE172 := aq ((by rw [hg]; exact (below_size (bw HB)) : w.heap.size ≤ gb172)); replace HB := aq (below_step (bw HB) hb); clear hb hbox hg) | ((with_reducible refine gate_dst (N := 2) rfl ?_); refine be 2 #[.int .u64 0, .int .u64 0] 108 ?_; intro gb173 hg w4 hbox hb; have BK173 := aq (hbox); have GW173 := aq ((by rw [hg]; exact (below_size (bw HB)) : w.heap.size ≤ gb173)); have GE173 := aq ((by rw [hg]; exact (below_size (bw HB)) : w.heap.size ≤ gb173)); have NB172_173 := aq ((by rw [hg]; exact Nat.ne_of_lt (blk_lt (g := gb172) (o := .cells #[.int .u64 a0_0, .int .u64 a0_1] 108 (0, 0)) (bq BK172)) : gb172 ≠ gb173)); have NB173_172 := aq ((by rw [hg]; exact Nat.ne_of_gt (blk_lt (g := gb172) (o := .cells #[.int .u64 a0_0, .int .u64 a0_1] 108 (0, 0)) (bq BK172)) : gb173 ≠ gb172)); replace BK172 := aq (blk_below (bq BK172) hb); replace HB := aq (below_step (bw HB) hb); clear hb hbox hg; have hnb5 := NB172_173.out; have hnc5 := NB173_172.out; have hcz6_0 : w4.cell? ⟨gb172, 0, none⟩ = some (.int .u64 a0_0) := bc BK172 0; have hcz6_1 : w4.cell? ⟨gb172, 1, none⟩ = some (.int .u64 a0_1) := bc BK172 1; have hfz6_0 := bz BK172 0; have hfz6_1 := bz BK172 1) | ((with_reducible refine gate_callee (f := 90) rfl ?_); refine gL 9 Tryd.func90 #[.int .u64 (IntKind.u64.wrap (a0_0 + 1)), .int .u64 (a0_1 / 2)] ?_; (with_reducible refine (compact_NewNodeID.calls (IntKind.u64.wrap (a0_0 + 1)) (a0_1 / 2) t174 t175 _ A2.out).mono ?_); rintro e w7 ⟨rfl, hb⟩; refine ⟨_, rfl, ?_⟩; replace BK172 := aq (blk_below (bq BK172) hb); replace BK173 := aq (blk_below (bq BK173) hb); replace HB := aq (below_step (bw HB) hb); (try clear hb); have hcz8_0 : w7.cell? ⟨gb173, 0, none⟩ = some (.int .u64 0) := bc BK173 0; have hcz8_1 : w7.cell? ⟨gb173, 1, none⟩ = some (.int .u64 0) := bc BK173 1; have hfz8_0 := bz BK173 0; have hfz8_1 := bz BK173 1))
  refine bodyPost_ret (results_cell_row rfl _ _ gb173 108 #[.int .u64 t174, .int .u64 t175] (0, 0) _ rfl (by (with_reducible repeat (first | refine blk_drewN ?_ _ | refine blk_drew ?_ | refine blk_alloc ?_ _)); refine blk_put (cs := #[.int .u64 t174, .int .u64 0]) ?_ 1 _ rfl; (with_reducible repeat (first | refine blk_drewN ?_ _ | refine blk_drew ?_ | refine blk_alloc ?_ _)); refine blk_put (cs := #[.int .u64 0, .int .u64 0]) ?_ 0 _ rfl; (with_reducible repeat (first | refine blk_drewN ?_ _ | refine blk_drew ?_ | refine blk_alloc ?_ _)); exact BK173.out) Tryd.underlying108 rfl (by kernel_rfl)) rfl ?_
  exact ⟨by first | rfl | (simp [errW_none, errW_some] <;> rfl) | (simp [*, errW_none, errW_some] <;> rfl), by repeat (first | (with_reducible first | exact HB.out | apply below_alloc | apply pw_below_drewN | apply below_drew1 | refine below_set ?_ GE172.out | refine below_set ?_ GE173.out) | exact HB.out)⟩
end Go.Proofs.YtfhcpniibiobgaaDoor.Qf
