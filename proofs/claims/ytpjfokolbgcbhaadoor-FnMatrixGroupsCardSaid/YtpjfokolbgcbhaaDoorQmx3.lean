-- Written by wip/tools/myprint.py for this seat (the kit's print with changes); Lean checks it.
import Derived.Test.YtpjfokolbgcbhaaDoorQmx0
import Derived.Test.YtpjfokolbgcbhaaDoorQmx1
import Derived.Test.YtpjfokolbgcbhaaDoorQmx2
namespace Go.Proofs.YtpjfokolbgcbhaaDoor.Qm
open Go.RowKit Go.Proofs.YtpjfokolbgcbhaaDoorW.PrintWords Go.Proofs.YtpjfokolbgcbhaaDoorW.PrintLast Go.Proofs.YtpjfokolbgcbhaaDoorW.PrintMore
attribute [local go_sem] max2_int min2_int max_two min_two max_three min_three max_four min_four   -- for this text's walks alone
set_option linter.unusedVariables false
set_option linter.unusedSimpArgs false

/-! ### impl_Multiply: function 20 -/
def impl_Multiply.j0 : Nat → List (List Int) → List (List Int) → Bool → Option ((List (List Int)) × Bool)
  | 0, _, _, _ => none
  | k + 1, x0, x1, x15 => if x15 = true then (some (([] : List (List Int)), false)) else ((impl_rows.f k x0).bind fun t152 => ((impl_rows.f k x1).bind fun t155 => ((reedsolomon_DoorTimes.f k t152 t155).bind fun bt158 => ((impl_rows.f k bt158.1).bind fun t162 => (if bt158.2.isNone = true then (some (t162, true)) else (some (t162, false)))))))
def impl_Multiply.f (k : Nat) (l0 : List (List Int)) (l1 : List (List Int)) : Option ((List (List Int)) × Bool) := (impl_isMatrix.f k l0).bind fun t150 => (if t150 = true then ((impl_isMatrix.f k l1).bind fun t151 => (impl_Multiply.j0 k l0 l1 (!t151))) else (impl_Multiply.j0 k l0 l1 true))
theorem impl_Multiply.mono_l : ∀ k, (∀ y0 y1 y2, LeO (impl_Multiply.j0 k y0 y1 y2) (impl_Multiply.j0 (k + 1) y0 y1 y2))
  | 0 => fun _ _ _ r h => by simp [impl_Multiply.j0] at h
  | k + 1 => by
    have ih0 := impl_Multiply.mono_l k
    · intro y0 y1 y2
      unfold impl_Multiply.j0
      repeat' first
      | (with_reducible exact ih0 _ _ _)
      | (with_reducible exact impl_isMatrix.mono _ _)
      | (with_reducible exact impl_rows.mono _ _)
      | (with_reducible exact reedsolomon_DoorTimes.mono _ _ _)
      | (with_reducible exact LeO.refl _)
      | (with_reducible exact LeO.none _)
      | (with_reducible refine LeO.ite ?_ ?_)
      | (with_reducible refine LeO.bind ?_ (fun _ => ?_))
      | exact ih0 _ _ _
      | exact impl_isMatrix.mono _ _
      | exact impl_rows.mono _ _
      | exact reedsolomon_DoorTimes.mono _ _ _
      | exact LeO.none _
      | refine LeO.ite ?_ ?_
      | refine LeO.bind ?_ (fun _ => ?_)
theorem impl_Multiply.mono : ∀ a0 a1 k, LeO (impl_Multiply.f k a0 a1) (impl_Multiply.f (k + 1) a0 a1) := by
  intro a0 a1 k
  have ih0 := impl_Multiply.mono_l k
  unfold impl_Multiply.f
  repeat' first
      | (with_reducible exact ih0 _ _ _)
      | (with_reducible exact impl_isMatrix.mono _ _)
      | (with_reducible exact impl_rows.mono _ _)
      | (with_reducible exact reedsolomon_DoorTimes.mono _ _ _)
      | (with_reducible exact LeO.refl _)
      | (with_reducible exact LeO.none _)
      | (with_reducible refine LeO.ite ?_ ?_)
      | (with_reducible refine LeO.bind ?_ (fun _ => ?_))
      | exact ih0 _ _ _
      | exact impl_isMatrix.mono _ _
      | exact impl_rows.mono _ _
      | exact reedsolomon_DoorTimes.mono _ _ _
      | exact LeO.none _
      | refine LeO.ite ?_ ?_
      | refine LeO.bind ?_ (fun _ => ?_)
set_option maxHeartbeats 8000000 in
set_option maxRecDepth 100000 in
theorem impl_Multiply.calls (k : Nat) (A0 : Option Addr) (c0 : Nat) (l0 : List (List Int)) (A1 : Option Addr) (c1 : Nat) (l1 : List (List Int)) (r1 : List (List Int)) (r2 : Bool) (w : World) (hr0 : Kd.C (Kd.slice 5 (Kd.int .u8)) w A0 l0.length l0) (hc0 : l0.length ≤ c0) (hr1 : Kd.C (Kd.slice 5 (Kd.int .u8)) w A1 l1.length l1) (hc1 : l1.length ≤ c1) (HG_ : Glob w) (h : impl_Multiply.f k l0 l1 = some (r1, r2)) :
    Calls Tryd.prog 20 #[.slice A0 l0.length c0, .slice A1 l1.length c1] w fun e w' => ∃ v0_ : Value, e = .returned (.tuple #[v0_, .bool r2]) ∧ Kd.S (Kd.slice 5 (Kd.int .u8)) 24 w' w.heap.size (fun _ => True) v0_ r1 ∧ Below w.heap.size w w' := by
  have hu46 := Tryd.underlying46
  have HG := Aside0.mk HG_
  clear HG_
  have HR0 := Aside0.mk hr0
  have HC0 := Aside0.mk hc0
  clear hr0 hc0
  have HR1 := Aside0.mk hr1
  have HC1 := Aside0.mk hc1
  clear hr1 hc1
  have HB := Aside0.mk (Below.refl w.heap.size w)
  have H : ((impl_isMatrix.f k l0).bind fun t150 => (if t150 = true then ((impl_isMatrix.f k l1).bind fun t151 => (impl_Multiply.j0 k l0 l1 (!t151))) else (impl_Multiply.j0 k l0 l1 true))) = some (r1, r2) := h
  clear h
  have HC3 := Aside0.mk H
  clear H
  go_enter Tryd.func20, Tryd.ntmps20
  go_upto_region 1 with (fail)
  go_cut [15] (fun v15 wc => ∃ (kq : Nat) (x15_2 : Bool), v15 = .bool x15_2 ∧ Aside0 (impl_Multiply.j0 kq l0 l1 x15_2 = some (r1, r2)) ∧ Aside0 (kq ≤ k) ∧ Aside0 (Below w.heap.size w wc))
  case first =>
    have H := HC3.out
    clear HC3
    replace H := Option.bind_eq_some_iff.mp H
    obtain ⟨t150, A40, H⟩ := H
    replace H : (if t150 = true then ((impl_isMatrix.f k l1).bind fun t151 => (impl_Multiply.j0 k l0 l1 (!t151))) else (impl_Multiply.j0 k l0 l1 true)) = some (r1, r2) := H
    have A4 := Aside0.mk A40
    clear A40
    by_cases c5 : t150 = true
    · subst c5
      have H1 : ((impl_isMatrix.f k l1).bind fun t151 => (impl_Multiply.j0 k l0 l1 (!t151))) = some (r1, r2) := by rw [if_pos rfl] at H; exact H
      clear H
      have H := H1
      clear H1
      replace H := Option.bind_eq_some_iff.mp H
      obtain ⟨t151, A60, H⟩ := H
      replace H : (impl_Multiply.j0 k l0 l1 (!t151)) = some (r1, r2) := H
      have A6 := Aside0.mk A60
      clear A60
      have H' := Aside0.mk H
      clear H
      go_wp2_with (first | ((with_reducible refine gate_callee (f := 34) rfl ?_); refine goesL_ (some 9) rfl rfl Tryd.func34 (by kernel_rfl) rfl #[.slice A0 l0.length c0] rfl (by (try simp only [List.map_toArray, List.map_cons, List.map_nil]); first | done | rfl | (simp only [List.length_drop, List.length_take]; rfl)) ?_; (with_reducible refine (impl_isMatrix.calls k _ _ l0 true _ ?side1 ?side2 A4.out).mono ?_); (case side1 => repeat (first | exact (Kd.C_below HR0.out HB.out) | (with_reducible refine Kd.C_alloc ?_ _) | (with_reducible refine Kd.C_drewN ?_ _) | (with_reducible refine Kd.C_drew ?_))); (case side2 => exact HC0.out); rintro e w' ⟨rfl, ⟨nd, rfl⟩⟩; refine ⟨_, rfl, ?_⟩) | (go_at_call 34; (with_reducible refine (impl_isMatrix.calls k _ _ l1 t151 _ ?side1 ?side2 A6.out).mono ?_); (case side1 => repeat (first | exact (Kd.C_below HR1.out (by repeat (first | (with_reducible first | exact HB.out | apply below_alloc | apply pw_below_drewN | apply below_drew1) | exact HB.out))) | (with_reducible refine Kd.C_alloc ?_ _) | (with_reducible refine Kd.C_drewN ?_ _) | (with_reducible refine Kd.C_drew ?_))); (case side2 => exact HC1.out); rintro e w' ⟨rfl, ⟨nd, rfl⟩⟩))
      go_meet
      case rel => exact ⟨_, (!t151), (by first | rfl | (simp; done) | (simp [*]; done)), H', ⟨by first | omega | exact Nat.le_refl _⟩, ⟨by repeat (first | (with_reducible first | exact HB.out | apply below_alloc | apply pw_below_drewN | apply below_drew1) | exact HB.out)⟩⟩
    · replace c5 := Bool.eq_false_iff.mpr c5
      subst c5
      have H1 : (impl_Multiply.j0 k l0 l1 true) = some (r1, r2) := by rw [if_neg (show ¬ (false = true) by decide)] at H; exact H
      clear H
      have H := H1
      clear H1
      have H' := Aside0.mk H
      clear H
      go_wp2_with (first | ((with_reducible refine gate_callee (f := 34) rfl ?_); refine goesL_ (some 9) rfl rfl Tryd.func34 (by kernel_rfl) rfl #[.slice A0 l0.length c0] rfl (by (try simp only [List.map_toArray, List.map_cons, List.map_nil]); first | done | rfl | (simp only [List.length_drop, List.length_take]; rfl)) ?_; (with_reducible refine (impl_isMatrix.calls k _ _ l0 false _ ?side1 ?side2 A4.out).mono ?_); (case side1 => repeat (first | exact (Kd.C_below HR0.out HB.out) | (with_reducible refine Kd.C_alloc ?_ _) | (with_reducible refine Kd.C_drewN ?_ _) | (with_reducible refine Kd.C_drew ?_))); (case side2 => exact HC0.out); rintro e w' ⟨rfl, ⟨nd, rfl⟩⟩; refine ⟨_, rfl, ?_⟩))
      go_meet
      case rel => exact ⟨_, (true), (by first | rfl | (simp; done) | (simp [*]; done)), H', ⟨by first | omega | exact Nat.le_refl _⟩, ⟨by repeat (first | (with_reducible first | exact HB.out | apply below_alloc | apply pw_below_drewN | apply below_drew1) | exact HB.out)⟩⟩
  case rest =>
    clear HC3
    try clear c1
    try clear c2
    try clear p2
    try clear c3
    try clear c5
    obtain ⟨kq, x15_2, rfl, HA, HJ2, HB⟩ := hcut
    cases kq with
    | zero => exact absurd HA.out (by simp [impl_Multiply.j0])
    | succ kj2 =>
      have H := HA.out
      clear HA
      simp only [impl_Multiply.j0] at H
      by_cases c7 : x15_2 = true
      · subst c7
        have H1 : (some (([] : List (List Int)), false)) = some (r1, r2) := by rw [if_pos rfl] at H; exact H
        clear H
        have H := H1
        clear H1
        simp only [Option.some.injEq, Prod.mk.injEq] at H
        obtain ⟨rfl, rfl⟩ := H
        go_wp2
        go_ret2
        exact ⟨_, by first | rfl | (simp [errW_none, errW_some] <;> rfl) | (simp [*, errW_none, errW_some] <;> rfl), by first | exact Kd.S_nil _ _ _ _ _ | exact Kd.N_nil _ _ _ _ _ | exact Kd.V_nil _ _ _ _ _ | exact Kd.Q_nil _ _ _ _ _ | exact Kd.R_nil _ _ _ _ _, by repeat (first | (with_reducible first | exact HB.out | apply below_alloc | apply pw_below_drewN | apply below_drew1) | exact HB.out)⟩
      · replace c7 := Bool.eq_false_iff.mpr c7
        subst c7
        have H1 : ((impl_rows.f kj2 l0).bind fun t152 => ((impl_rows.f kj2 l1).bind fun t155 => ((reedsolomon_DoorTimes.f kj2 t152 t155).bind fun bt158 => ((impl_rows.f kj2 bt158.1).bind fun t162 => (if bt158.2.isNone = true then (some (t162, true)) else (some (t162, false))))))) = some (r1, r2) := by rw [if_neg (show ¬ (false = true) by decide)] at H; exact H
        clear H
        have H := H1
        clear H1
        replace H := Option.bind_eq_some_iff.mp H
        obtain ⟨t152, A80, H⟩ := H
        replace H : ((impl_rows.f kj2 l1).bind fun t155 => ((reedsolomon_DoorTimes.f kj2 t152 t155).bind fun bt158 => ((impl_rows.f kj2 bt158.1).bind fun t162 => (if bt158.2.isNone = true then (some (t162, true)) else (some (t162, false)))))) = some (r1, r2) := H
        have A8 := Aside0.mk A80
        clear A80
        replace H := Option.bind_eq_some_iff.mp H
        obtain ⟨t155, A90, H⟩ := H
        replace H : ((reedsolomon_DoorTimes.f kj2 t152 t155).bind fun bt158 => ((impl_rows.f kj2 bt158.1).bind fun t162 => (if bt158.2.isNone = true then (some (t162, true)) else (some (t162, false))))) = some (r1, r2) := H
        have A9 := Aside0.mk A90
        clear A90
        replace H := Option.bind_eq_some_iff.mp H
        obtain ⟨⟨t158, t159⟩, A100, H⟩ := H
        replace H : ((impl_rows.f kj2 t158).bind fun t162 => (if t159.isNone = true then (some (t162, true)) else (some (t162, false)))) = some (r1, r2) := H
        have A10 := Aside0.mk A100
        clear A100
        replace H := Option.bind_eq_some_iff.mp H
        obtain ⟨t162, A110, H⟩ := H
        replace H : (if t159.isNone = true then (some (t162, true)) else (some (t162, false))) = some (r1, r2) := H
        have A11 := Aside0.mk A110
        clear A110
        rcases t159 with _ | q165
        · have H1 : (some (t162, true)) = some (r1, r2) := by rw [if_pos (show (none : Option Int).isNone = true by rfl)] at H; exact H
          clear H
          have H := H1
          clear H1
          try simp only [errW_none, errW_some]
          simp only [Option.some.injEq, Prod.mk.injEq] at H
          obtain ⟨rfl, rfl⟩ := H
          try go_wp2_with (first | ((with_reducible refine gate_callee (f := 31) rfl ?_); refine goesL_ (some 18) rfl rfl Tryd.func31 (by kernel_rfl) rfl #[.slice A0 l0.length c0] rfl (by (try simp only [List.map_toArray, List.map_cons, List.map_nil]); first | done | rfl | (simp only [List.length_drop, List.length_take]; rfl)) ?_; (with_reducible refine (impl_rows.calls kj2 _ _ l0 t152 _ ?side1 ?side2 A8.out).mono ?_); (case side1 => repeat (first | exact (Kd.C_below HR0.out HB.out) | (with_reducible refine Kd.C_alloc ?_ _) | (with_reducible refine Kd.C_drewN ?_ _) | (with_reducible refine Kd.C_drew ?_))); (case side2 => exact HC0.out); rintro e w12 ⟨v153, rfl, ho0, hb⟩; refine ⟨_, rfl, ?_⟩; have n0_ := Aside0.mk (Kd.S_lower ho0 (below_size (by repeat (first | (with_reducible first | exact HB.out | apply below_alloc | apply pw_below_drewN | apply below_drew1) | exact HB.out)))); have n1_ := Aside0.mk (below_step (by repeat (first | (with_reducible first | exact HB.out | apply below_alloc | apply pw_below_drewN | apply below_drew1) | exact HB.out)) hb); clear HB; have HO154 := n0_; have HB := n1_; clear n0_ n1_; (try clear hb); (try clear hb2); (try clear hk); (try clear hi); (try clear ho0)) | ((with_reducible refine gate_callee (f := 31) rfl ?_); refine goesL_ (some 20) rfl rfl Tryd.func31 (by kernel_rfl) rfl #[.slice A1 l1.length c1] rfl (by (try simp only [List.map_toArray, List.map_cons, List.map_nil]); first | done | rfl | (simp only [List.length_drop, List.length_take]; rfl)) ?_; (with_reducible refine (impl_rows.calls kj2 _ _ l1 t155 _ ?side1 ?side2 A9.out).mono ?_); (case side1 => repeat (first | exact (Kd.C_below HR1.out HB.out) | (with_reducible refine Kd.C_alloc ?_ _) | (with_reducible refine Kd.C_drewN ?_ _) | (with_reducible refine Kd.C_drew ?_))); (case side2 => exact HC1.out); rintro e w13 ⟨v156, rfl, ho0, hb⟩; refine ⟨_, rfl, ?_⟩; have n0_ := Aside0.mk (Kd.S_elder' (by (with_reducible repeat (first | apply Kd.S_alloc | apply Kd.S_drewN | apply Kd.S_drew)); exact HO154.out) (Kd.S_base ho0) hb); have n1_ := Aside0.mk (Kd.S_lower (Kd.S_new' ho0 (Kd.S_lt (by (with_reducible repeat (first | apply Kd.S_alloc | apply Kd.S_drewN | apply Kd.S_drew)); exact HO154.out))) (below_size (by repeat (first | (with_reducible first | exact HB.out | apply below_alloc | apply pw_below_drewN | apply below_drew1) | exact HB.out)))); have n2_ := Aside0.mk (below_step (by repeat (first | (with_reducible first | exact HB.out | apply below_alloc | apply pw_below_drewN | apply below_drew1) | exact HB.out)) hb); clear HO154; clear HB; have HO154 := n0_; have HO157 := n1_; have HB := n2_; clear n0_ n1_ n2_; (try clear hb); (try clear hb2); (try clear hk); (try clear hi); (try clear ho0); obtain ⟨Ao14, co14, eo14⟩ := Kd.S_slice HO154.out; subst eo14; obtain ⟨Ao15, co15, eo15⟩ := Kd.S_slice HO157.out; subst eo15) | ((with_reducible refine gate_callee (f := 35) rfl ?_); refine goesL_ (some 21) rfl rfl Tryd.func35 (by kernel_rfl) rfl #[.slice Ao14 t152.length co14, .slice Ao15 t155.length co15] rfl (by (try simp only [List.map_toArray, List.map_cons, List.map_nil]); first | done | rfl | (simp only [List.length_drop, List.length_take]; rfl)) ?_; (with_reducible refine (reedsolomon_DoorTimes.calls kj2 _ _ t152 _ _ t155 t158 none _ ?side1 ?side2 ?side3 ?side4 ?side5 A10.out).mono ?_); (case side1 => repeat (first | exact (Kd.S_reads' HO154.out).2.2 | (with_reducible refine Kd.C_alloc ?_ _) | (with_reducible refine Kd.C_drewN ?_ _) | (with_reducible refine Kd.C_drew ?_))); (case side2 => exact (Kd.S_reads' HO154.out).2.1); (case side3 => repeat (first | exact (Kd.S_reads' HO157.out).2.2 | (with_reducible refine Kd.C_alloc ?_ _) | (with_reducible refine Kd.C_drewN ?_ _) | (with_reducible refine Kd.C_drew ?_))); (case side4 => exact (Kd.S_reads' HO157.out).2.1); (case side5 => first | exact HG.out | exact Glob.drewN HG.out _ | exact Glob.below HG.out (by repeat (first | (with_reducible first | exact HB.out | apply below_alloc | apply pw_below_drewN | apply below_drew1) | exact HB.out))); rintro e w16 ⟨v160, rfl, ho0, hb⟩; refine ⟨_, rfl, ?_⟩; have n0_ := Aside0.mk (Kd.S_elder' (by (with_reducible repeat (first | apply Kd.S_alloc | apply Kd.S_drewN | apply Kd.S_drew)); exact HO154.out) (Kd.S_base ho0) hb); have n1_ := Aside0.mk (Kd.S_elder' (by (with_reducible repeat (first | apply Kd.S_alloc | apply Kd.S_drewN | apply Kd.S_drew)); exact HO157.out) (Kd.S_base ho0) hb); have n2_ := Aside0.mk (Kd.S_lower (Kd.S_new' (Kd.S_new' ho0 (Kd.S_lt (by (with_reducible repeat (first | apply Kd.S_alloc | apply Kd.S_drewN | apply Kd.S_drew)); exact HO154.out))) (Kd.S_lt (by (with_reducible repeat (first | apply Kd.S_alloc | apply Kd.S_drewN | apply Kd.S_drew)); exact HO157.out))) (below_size (by repeat (first | (with_reducible first | exact HB.out | apply below_alloc | apply pw_below_drewN | apply below_drew1) | exact HB.out)))); have n3_ := Aside0.mk (below_step (by repeat (first | (with_reducible first | exact HB.out | apply below_alloc | apply pw_below_drewN | apply below_drew1) | exact HB.out)) hb); clear HO154; clear HO157; clear HB; have HO154 := n0_; have HO157 := n1_; have HO161 := n2_; have HB := n3_; clear n0_ n1_ n2_ n3_; (try clear hb); (try clear hb2); (try clear hk); (try clear hi); (try clear ho0); (try simp only [errW_none, errW_some])))
          have n0_ := Aside0.mk (Kd.S_drew HO154.out)
          have n1_ := Aside0.mk (Kd.S_drew HO157.out)
          have n2_ := Aside0.mk (Kd.S_drew HO161.out)
          have n3_ := Aside0.mk (below_drew1 HB.out)
          clear HO154
          clear HO157
          clear HO161
          clear HB
          have HO154 := n0_
          have HO157 := n1_
          have HO161 := n2_
          have HB := n3_
          clear n0_ n1_ n2_ n3_
          obtain ⟨Ao18, co18, eo18⟩ := Kd.S_slice HO161.out
          (first | subst eo18 | (injection eo18 with f1_ f2_ f3_; have f4_ := f1_.symm; have f5_ := f3_.symm; clear f1_ f2_ f3_; subst f4_; subst f5_))
          refine start_ (n := 6) (S := fun w' => True) (ds := []) #[false, false, false, false, false, false] (by kernel_rfl) rfl rfl trivial (fun hHeld => ?_)
          generalize w16.drew = w17 at HO154 HO157 HO161 HB hHeld ⊢
          refine pure_ (i := 0) (N := some 24) (v := ?_) (a' := ?_) #[true, false, false, false, false, false] rfl rfl (by kernel_rfl) (fun _ _ _ h => h) (Or.inl ⟨by rfl, ?_⟩) ?_ ?_
          rotate_left
          · intro w'
            go_simp
            with_reducible rfl
          rotate_left
          · simp only [Act.put, List.setIfInBounds_toArray, List.set_cons_zero, List.set_cons_succ, i64_w, i32_w]
            rfl
          refine pure_ (i := 2) (N := some 26) (v := ?_) (a' := ?_) #[true, false, true, false, false, false] rfl rfl (by kernel_rfl) (fun _ _ _ h => h) (Or.inl ⟨by rfl, ?_⟩) ?_ ?_
          rotate_left
          · intro w'
            go_simp
            with_reducible rfl
          rotate_left
          · simp only [Act.put, List.setIfInBounds_toArray, List.set_cons_zero, List.set_cons_succ, i64_w, i32_w]
            rfl
          refine pure_ (i := 3) (N := some 27) (v := ?_) (a' := ?_) #[true, false, true, true, false, false] rfl rfl (by kernel_rfl) (fun _ _ _ h => h) (Or.inl ⟨by rfl, ?_⟩) ?_ ?_
          rotate_left
          · intro w'
            go_simp
            with_reducible rfl
          rotate_left
          · simp only [Act.put, List.setIfInBounds_toArray, List.set_cons_zero, List.set_cons_succ, i64_w, i32_w]
            rfl
          refine one_ (i := 1) (N := some 25) #[true, true, true, true, false, false] rfl rfl (by kernel_rfl) (by decide) (fun K hK => ?_)
          refine goes_ Tryd.func31 (by kernel_rfl) rfl #[.slice Ao18 t158.length co18] (by rfl) rfl rfl (by (try simp only [List.map_toArray, List.map_cons, List.map_nil]); first | done | rfl | (simp only [List.length_drop, List.length_take]; rfl)) ?_
          with_reducible refine (impl_rows.calls kj2 _ _ t158 t162 _ ?side1 ?side2 A11.out).mono ?_
          (case side1 => repeat (first | exact (Kd.S_reads' HO161.out).2.2 | (with_reducible refine Kd.C_alloc ?_ _) | (with_reducible refine Kd.C_drewN ?_ _) | (with_reducible refine Kd.C_drew ?_)))
          (case side2 => exact (Kd.S_reads' HO161.out).2.1)
          rintro e w19 ⟨v163, rfl, ho0, hb⟩
          refine ⟨_, rfl, ?_⟩
          have n0_ := Aside0.mk (Kd.S_elder' (by (with_reducible repeat (first | apply Kd.S_alloc | apply Kd.S_drewN | apply Kd.S_drew)); exact HO154.out) (Kd.S_base ho0) hb)
          have n1_ := Aside0.mk (Kd.S_elder' (by (with_reducible repeat (first | apply Kd.S_alloc | apply Kd.S_drewN | apply Kd.S_drew)); exact HO157.out) (Kd.S_base ho0) hb)
          have n2_ := Aside0.mk (Kd.S_elder' (by (with_reducible repeat (first | apply Kd.S_alloc | apply Kd.S_drewN | apply Kd.S_drew)); exact HO161.out) (Kd.S_base ho0) hb)
          have n3_ := Aside0.mk (Kd.S_lower (Kd.S_new' (Kd.S_new' (Kd.S_new' ho0 (Kd.S_lt (by (with_reducible repeat (first | apply Kd.S_alloc | apply Kd.S_drewN | apply Kd.S_drew)); exact HO154.out))) (Kd.S_lt (by (with_reducible repeat (first | apply Kd.S_alloc | apply Kd.S_drewN | apply Kd.S_drew)); exact HO157.out))) (Kd.S_lt (by (with_reducible repeat (first | apply Kd.S_alloc | apply Kd.S_drewN | apply Kd.S_drew)); exact HO161.out))) (below_size (by repeat (first | (with_reducible first | exact HB.out | apply below_alloc | apply pw_below_drewN | apply below_drew1) | exact HB.out))))
          have n4_ := Aside0.mk (below_step (by repeat (first | (with_reducible first | exact HB.out | apply below_alloc | apply pw_below_drewN | apply below_drew1) | exact HB.out)) hb)
          clear HO154
          clear HO157
          clear HO161
          clear HB
          have HO154 := n0_
          have HO157 := n1_
          have HO161 := n2_
          have HO164 := n3_
          have HB := n4_
          clear n0_ n1_ n2_ n3_ n4_
          (try clear hb)
          (try clear hb2)
          (try clear hk)
          (try clear hi)
          (try clear ho0)
          refine hK.out _ _ trivial (fun hHeld => ?_)
          clear hK K
          refine norm_ (a' := ?_) ?_ ?_
          rotate_left
          · show Act.put _ (some 25) _ = _
            simp only [Act.put, List.setIfInBounds_toArray, List.set_cons_zero, List.set_cons_succ, i64_w, i32_w]
            rfl
          refine pure_ (i := 4) (N := some 4) (v := ?_) (a' := ?_) #[true, true, true, true, true, false] rfl rfl (by kernel_rfl) (fun _ _ _ h => h) (Or.inl ⟨by rfl, ?_⟩) ?_ ?_
          rotate_left
          · intro w'
            go_simp
            with_reducible rfl
          rotate_left
          · simp only [Act.put, List.setIfInBounds_toArray, List.set_cons_zero, List.set_cons_succ, i64_w, i32_w]
            rfl
          refine pure_ (i := 5) (N := some 5) (v := ?_) (a' := ?_) #[true, true, true, true, true, true] rfl rfl (by kernel_rfl) (fun _ _ _ h => h) (Or.inl ⟨by rfl, ?_⟩) ?_ ?_
          rotate_left
          · intro w'
            go_simp
            with_reducible rfl
          rotate_left
          · simp only [Act.put, List.setIfInBounds_toArray, List.set_cons_zero, List.set_cons_succ, i64_w, i32_w]
            rfl
          refine done_ (by kernel_rfl) ?_
          try go_wp2
          go_ret2
          exact ⟨_, by first | rfl | (simp [errW_none, errW_some] <;> rfl) | (simp [*, errW_none, errW_some] <;> rfl), by (with_reducible repeat (first | apply Kd.S_alloc | apply Kd.S_drewN | apply Kd.S_drew)); exact Kd.S_mono HO164.out (fun _ hk => trivial), by repeat (first | (with_reducible first | exact HB.out | apply below_alloc | apply pw_below_drewN | apply below_drew1) | exact HB.out)⟩
        · have H1 : (some (t162, false)) = some (r1, r2) := by rw [if_neg (show ¬ (some q165).isNone = true by simp)] at H; exact H
          clear H
          have H := H1
          clear H1
          try simp only [errW_none, errW_some]
          simp only [Option.some.injEq, Prod.mk.injEq] at H
          obtain ⟨rfl, rfl⟩ := H
          try go_wp2_with (first | ((with_reducible refine gate_callee (f := 31) rfl ?_); refine goesL_ (some 18) rfl rfl Tryd.func31 (by kernel_rfl) rfl #[.slice A0 l0.length c0] rfl (by (try simp only [List.map_toArray, List.map_cons, List.map_nil]); first | done | rfl | (simp only [List.length_drop, List.length_take]; rfl)) ?_; (with_reducible refine (impl_rows.calls kj2 _ _ l0 t152 _ ?side1 ?side2 A8.out).mono ?_); (case side1 => repeat (first | exact (Kd.C_below HR0.out HB.out) | (with_reducible refine Kd.C_alloc ?_ _) | (with_reducible refine Kd.C_drewN ?_ _) | (with_reducible refine Kd.C_drew ?_))); (case side2 => exact HC0.out); rintro e w20 ⟨v153, rfl, ho0, hb⟩; refine ⟨_, rfl, ?_⟩; have n0_ := Aside0.mk (Kd.S_lower ho0 (below_size (by repeat (first | (with_reducible first | exact HB.out | apply below_alloc | apply pw_below_drewN | apply below_drew1) | exact HB.out)))); have n1_ := Aside0.mk (below_step (by repeat (first | (with_reducible first | exact HB.out | apply below_alloc | apply pw_below_drewN | apply below_drew1) | exact HB.out)) hb); clear HB; have HO154 := n0_; have HB := n1_; clear n0_ n1_; (try clear hb); (try clear hb2); (try clear hk); (try clear hi); (try clear ho0)) | ((with_reducible refine gate_callee (f := 31) rfl ?_); refine goesL_ (some 20) rfl rfl Tryd.func31 (by kernel_rfl) rfl #[.slice A1 l1.length c1] rfl (by (try simp only [List.map_toArray, List.map_cons, List.map_nil]); first | done | rfl | (simp only [List.length_drop, List.length_take]; rfl)) ?_; (with_reducible refine (impl_rows.calls kj2 _ _ l1 t155 _ ?side1 ?side2 A9.out).mono ?_); (case side1 => repeat (first | exact (Kd.C_below HR1.out HB.out) | (with_reducible refine Kd.C_alloc ?_ _) | (with_reducible refine Kd.C_drewN ?_ _) | (with_reducible refine Kd.C_drew ?_))); (case side2 => exact HC1.out); rintro e w21 ⟨v156, rfl, ho0, hb⟩; refine ⟨_, rfl, ?_⟩; have n0_ := Aside0.mk (Kd.S_elder' (by (with_reducible repeat (first | apply Kd.S_alloc | apply Kd.S_drewN | apply Kd.S_drew)); exact HO154.out) (Kd.S_base ho0) hb); have n1_ := Aside0.mk (Kd.S_lower (Kd.S_new' ho0 (Kd.S_lt (by (with_reducible repeat (first | apply Kd.S_alloc | apply Kd.S_drewN | apply Kd.S_drew)); exact HO154.out))) (below_size (by repeat (first | (with_reducible first | exact HB.out | apply below_alloc | apply pw_below_drewN | apply below_drew1) | exact HB.out)))); have n2_ := Aside0.mk (below_step (by repeat (first | (with_reducible first | exact HB.out | apply below_alloc | apply pw_below_drewN | apply below_drew1) | exact HB.out)) hb); clear HO154; clear HB; have HO154 := n0_; have HO157 := n1_; have HB := n2_; clear n0_ n1_ n2_; (try clear hb); (try clear hb2); (try clear hk); (try clear hi); (try clear ho0); obtain ⟨Ao22, co22, eo22⟩ := Kd.S_slice HO154.out; subst eo22; obtain ⟨Ao23, co23, eo23⟩ := Kd.S_slice HO157.out; subst eo23) | ((with_reducible refine gate_callee (f := 35) rfl ?_); refine goesL_ (some 21) rfl rfl Tryd.func35 (by kernel_rfl) rfl #[.slice Ao22 t152.length co22, .slice Ao23 t155.length co23] rfl (by (try simp only [List.map_toArray, List.map_cons, List.map_nil]); first | done | rfl | (simp only [List.length_drop, List.length_take]; rfl)) ?_; (with_reducible refine (reedsolomon_DoorTimes.calls kj2 _ _ t152 _ _ t155 t158 (some q165) _ ?side1 ?side2 ?side3 ?side4 ?side5 A10.out).mono ?_); (case side1 => repeat (first | exact (Kd.S_reads' HO154.out).2.2 | (with_reducible refine Kd.C_alloc ?_ _) | (with_reducible refine Kd.C_drewN ?_ _) | (with_reducible refine Kd.C_drew ?_))); (case side2 => exact (Kd.S_reads' HO154.out).2.1); (case side3 => repeat (first | exact (Kd.S_reads' HO157.out).2.2 | (with_reducible refine Kd.C_alloc ?_ _) | (with_reducible refine Kd.C_drewN ?_ _) | (with_reducible refine Kd.C_drew ?_))); (case side4 => exact (Kd.S_reads' HO157.out).2.1); (case side5 => first | exact HG.out | exact Glob.drewN HG.out _ | exact Glob.below HG.out (by repeat (first | (with_reducible first | exact HB.out | apply below_alloc | apply pw_below_drewN | apply below_drew1) | exact HB.out))); rintro e w24 ⟨v160, rfl, ho0, hb⟩; refine ⟨_, rfl, ?_⟩; have n0_ := Aside0.mk (Kd.S_elder' (by (with_reducible repeat (first | apply Kd.S_alloc | apply Kd.S_drewN | apply Kd.S_drew)); exact HO154.out) (Kd.S_base ho0) hb); have n1_ := Aside0.mk (Kd.S_elder' (by (with_reducible repeat (first | apply Kd.S_alloc | apply Kd.S_drewN | apply Kd.S_drew)); exact HO157.out) (Kd.S_base ho0) hb); have n2_ := Aside0.mk (Kd.S_lower (Kd.S_new' (Kd.S_new' ho0 (Kd.S_lt (by (with_reducible repeat (first | apply Kd.S_alloc | apply Kd.S_drewN | apply Kd.S_drew)); exact HO154.out))) (Kd.S_lt (by (with_reducible repeat (first | apply Kd.S_alloc | apply Kd.S_drewN | apply Kd.S_drew)); exact HO157.out))) (below_size (by repeat (first | (with_reducible first | exact HB.out | apply below_alloc | apply pw_below_drewN | apply below_drew1) | exact HB.out)))); have n3_ := Aside0.mk (below_step (by repeat (first | (with_reducible first | exact HB.out | apply below_alloc | apply pw_below_drewN | apply below_drew1) | exact HB.out)) hb); clear HO154; clear HO157; clear HB; have HO154 := n0_; have HO157 := n1_; have HO161 := n2_; have HB := n3_; clear n0_ n1_ n2_ n3_; (try clear hb); (try clear hb2); (try clear hk); (try clear hi); (try clear ho0); (try simp only [errW_none, errW_some])))
          have n0_ := Aside0.mk (Kd.S_drew HO154.out)
          have n1_ := Aside0.mk (Kd.S_drew HO157.out)
          have n2_ := Aside0.mk (Kd.S_drew HO161.out)
          have n3_ := Aside0.mk (below_drew1 HB.out)
          clear HO154
          clear HO157
          clear HO161
          clear HB
          have HO154 := n0_
          have HO157 := n1_
          have HO161 := n2_
          have HB := n3_
          clear n0_ n1_ n2_ n3_
          obtain ⟨Ao26, co26, eo26⟩ := Kd.S_slice HO161.out
          (first | subst eo26 | (injection eo26 with f1_ f2_ f3_; have f4_ := f1_.symm; have f5_ := f3_.symm; clear f1_ f2_ f3_; subst f4_; subst f5_))
          refine start_ (n := 6) (S := fun w' => True) (ds := []) #[false, false, false, false, false, false] (by kernel_rfl) rfl rfl trivial (fun hHeld => ?_)
          generalize w24.drew = w25 at HO154 HO157 HO161 HB hHeld ⊢
          refine pure_ (i := 0) (N := some 24) (v := ?_) (a' := ?_) #[true, false, false, false, false, false] rfl rfl (by kernel_rfl) (fun _ _ _ h => h) (Or.inl ⟨by rfl, ?_⟩) ?_ ?_
          rotate_left
          · intro w'
            go_simp
            with_reducible rfl
          rotate_left
          · simp only [Act.put, List.setIfInBounds_toArray, List.set_cons_zero, List.set_cons_succ, i64_w, i32_w]
            rfl
          refine pure_ (i := 2) (N := some 26) (v := ?_) (a' := ?_) #[true, false, true, false, false, false] rfl rfl (by kernel_rfl) (fun _ _ _ h => h) (Or.inl ⟨by rfl, ?_⟩) ?_ ?_
          rotate_left
          · intro w'
            go_simp
            with_reducible rfl
          rotate_left
          · simp only [Act.put, List.setIfInBounds_toArray, List.set_cons_zero, List.set_cons_succ, i64_w, i32_w]
            rfl
          refine pure_ (i := 3) (N := some 27) (v := ?_) (a' := ?_) #[true, false, true, true, false, false] rfl rfl (by kernel_rfl) (fun _ _ _ h => h) (Or.inl ⟨by rfl, ?_⟩) ?_ ?_
          rotate_left
          · intro w'
            go_simp
            with_reducible rfl
          rotate_left
          · simp only [Act.put, List.setIfInBounds_toArray, List.set_cons_zero, List.set_cons_succ, i64_w, i32_w]
            rfl
          refine one_ (i := 1) (N := some 25) #[true, true, true, true, false, false] rfl rfl (by kernel_rfl) (by decide) (fun K hK => ?_)
          refine goes_ Tryd.func31 (by kernel_rfl) rfl #[.slice Ao26 t158.length co26] (by rfl) rfl rfl (by (try simp only [List.map_toArray, List.map_cons, List.map_nil]); first | done | rfl | (simp only [List.length_drop, List.length_take]; rfl)) ?_
          with_reducible refine (impl_rows.calls kj2 _ _ t158 t162 _ ?side1 ?side2 A11.out).mono ?_
          (case side1 => repeat (first | exact (Kd.S_reads' HO161.out).2.2 | (with_reducible refine Kd.C_alloc ?_ _) | (with_reducible refine Kd.C_drewN ?_ _) | (with_reducible refine Kd.C_drew ?_)))
          (case side2 => exact (Kd.S_reads' HO161.out).2.1)
          rintro e w27 ⟨v163, rfl, ho0, hb⟩
          refine ⟨_, rfl, ?_⟩
          have n0_ := Aside0.mk (Kd.S_elder' (by (with_reducible repeat (first | apply Kd.S_alloc | apply Kd.S_drewN | apply Kd.S_drew)); exact HO154.out) (Kd.S_base ho0) hb)
          have n1_ := Aside0.mk (Kd.S_elder' (by (with_reducible repeat (first | apply Kd.S_alloc | apply Kd.S_drewN | apply Kd.S_drew)); exact HO157.out) (Kd.S_base ho0) hb)
          have n2_ := Aside0.mk (Kd.S_elder' (by (with_reducible repeat (first | apply Kd.S_alloc | apply Kd.S_drewN | apply Kd.S_drew)); exact HO161.out) (Kd.S_base ho0) hb)
          have n3_ := Aside0.mk (Kd.S_lower (Kd.S_new' (Kd.S_new' (Kd.S_new' ho0 (Kd.S_lt (by (with_reducible repeat (first | apply Kd.S_alloc | apply Kd.S_drewN | apply Kd.S_drew)); exact HO154.out))) (Kd.S_lt (by (with_reducible repeat (first | apply Kd.S_alloc | apply Kd.S_drewN | apply Kd.S_drew)); exact HO157.out))) (Kd.S_lt (by (with_reducible repeat (first | apply Kd.S_alloc | apply Kd.S_drewN | apply Kd.S_drew)); exact HO161.out))) (below_size (by repeat (first | (with_reducible first | exact HB.out | apply below_alloc | apply pw_below_drewN | apply below_drew1) | exact HB.out))))
          have n4_ := Aside0.mk (below_step (by repeat (first | (with_reducible first | exact HB.out | apply below_alloc | apply pw_below_drewN | apply below_drew1) | exact HB.out)) hb)
          clear HO154
          clear HO157
          clear HO161
          clear HB
          have HO154 := n0_
          have HO157 := n1_
          have HO161 := n2_
          have HO164 := n3_
          have HB := n4_
          clear n0_ n1_ n2_ n3_ n4_
          (try clear hb)
          (try clear hb2)
          (try clear hk)
          (try clear hi)
          (try clear ho0)
          refine hK.out _ _ trivial (fun hHeld => ?_)
          clear hK K
          refine norm_ (a' := ?_) ?_ ?_
          rotate_left
          · show Act.put _ (some 25) _ = _
            simp only [Act.put, List.setIfInBounds_toArray, List.set_cons_zero, List.set_cons_succ, i64_w, i32_w]
            rfl
          refine pure_ (i := 4) (N := some 4) (v := ?_) (a' := ?_) #[true, true, true, true, true, false] rfl rfl (by kernel_rfl) (fun _ _ _ h => h) (Or.inl ⟨by rfl, ?_⟩) ?_ ?_
          rotate_left
          · intro w'
            go_simp
            with_reducible rfl
          rotate_left
          · simp only [Act.put, List.setIfInBounds_toArray, List.set_cons_zero, List.set_cons_succ, i64_w, i32_w]
            rfl
          refine pure_ (i := 5) (N := some 5) (v := ?_) (a' := ?_) #[true, true, true, true, true, true] rfl rfl (by kernel_rfl) (fun _ _ _ h => h) (Or.inl ⟨by rfl, ?_⟩) ?_ ?_
          rotate_left
          · intro w'
            go_simp
            with_reducible rfl
          rotate_left
          · simp only [Act.put, List.setIfInBounds_toArray, List.set_cons_zero, List.set_cons_succ, i64_w, i32_w]
            rfl
          refine done_ (by kernel_rfl) ?_
          try go_wp2
          go_ret2
          exact ⟨_, by first | rfl | (simp [errW_none, errW_some] <;> rfl) | (simp [*, errW_none, errW_some] <;> rfl), by (with_reducible repeat (first | apply Kd.S_alloc | apply Kd.S_drewN | apply Kd.S_drew)); exact Kd.S_mono HO164.out (fun _ hk => trivial), by repeat (first | (with_reducible first | exact HB.out | apply below_alloc | apply pw_below_drewN | apply below_drew1) | exact HB.out)⟩

/-! ### reedsolomon_identityMatrix: function 48 -/
def reedsolomon_identityMatrix.l0 : Nat → List (List Int) → Int → Int → Option ((List (List Int)) × Option Int)
  | 0, _, _, _ => none
  | k + 1, x4, x17, x18 => if x18 < x17 then (if 0 ≤ x18 then (if x18 < (x4.length : Int) then (if x18 < ((rd_L1 x4 x18).length : Int) then (reedsolomon_identityMatrix.l0 k (x4.set (x18 : Int).toNat ((rd_L1 x4 x18).set (x18 : Int).toNat 1)) x17 (wrap64 (x18 + 1))) else (none)) else (none)) else (none)) else (some (x4, none))
def reedsolomon_identityMatrix.f (k : Nat) (a0 : Int) : Option ((List (List Int)) × Option Int) := (reedsolomon_newMatrix.f k a0 a0).bind fun bt166 => (if bt166.2.isNone = true then (reedsolomon_identityMatrix.l0 k bt166.1 (bt166.1.length : Int) 0) else (some (([] : List (List Int)), some (bt166.2.getD 0))))
theorem reedsolomon_identityMatrix.mono_l : ∀ k, (∀ y0 y1 y2, LeO (reedsolomon_identityMatrix.l0 k y0 y1 y2) (reedsolomon_identityMatrix.l0 (k + 1) y0 y1 y2))
  | 0 => fun _ _ _ r h => by simp [reedsolomon_identityMatrix.l0] at h
  | k + 1 => by
    have ih0 := reedsolomon_identityMatrix.mono_l k
    · intro y0 y1 y2
      unfold reedsolomon_identityMatrix.l0
      repeat' first
      | (with_reducible exact ih0 _ _ _)
      | (with_reducible exact reedsolomon_newMatrix.mono _ _ _)
      | (with_reducible exact LeO.refl _)
      | (with_reducible exact LeO.none _)
      | (with_reducible refine LeO.ite ?_ ?_)
      | (with_reducible refine LeO.bind ?_ (fun _ => ?_))
      | exact ih0 _ _ _
      | exact reedsolomon_newMatrix.mono _ _ _
      | exact LeO.none _
      | refine LeO.ite ?_ ?_
      | refine LeO.bind ?_ (fun _ => ?_)
theorem reedsolomon_identityMatrix.mono : ∀ a0 k, LeO (reedsolomon_identityMatrix.f k a0) (reedsolomon_identityMatrix.f (k + 1) a0) := by
  intro a0 k
  have ih0 := reedsolomon_identityMatrix.mono_l k
  unfold reedsolomon_identityMatrix.f
  repeat' first
      | (with_reducible exact ih0 _ _ _)
      | (with_reducible exact reedsolomon_newMatrix.mono _ _ _)
      | (with_reducible exact LeO.refl _)
      | (with_reducible exact LeO.none _)
      | (with_reducible refine LeO.ite ?_ ?_)
      | (with_reducible refine LeO.bind ?_ (fun _ => ?_))
      | exact ih0 _ _ _
      | exact reedsolomon_newMatrix.mono _ _ _
      | exact LeO.none _
      | refine LeO.ite ?_ ?_
      | refine LeO.bind ?_ (fun _ => ?_)
set_option maxHeartbeats 8000000 in
set_option maxRecDepth 100000 in
theorem reedsolomon_identityMatrix.calls (k : Nat) (a0 : Int) (r1 : List (List Int)) (r2 : Option Int) (w : World) (h : reedsolomon_identityMatrix.f k a0 = some (r1, r2)) :
    Calls Tryd.prog 48 #[.int .i64 a0] w fun e w' => ∃ v0_ : Value, e = .returned (.tuple #[v0_, errW r2]) ∧ Kd.S (Kd.slice 5 (Kd.int .u8)) 24 w' w.heap.size (fun _ => True) v0_ r1 ∧ Below w.heap.size w w' := by
  have hu46 := Tryd.underlying46
  have HB := Aside0.mk (Below.refl w.heap.size w)
  have H : ((reedsolomon_newMatrix.f k a0 a0).bind fun bt166 => (if bt166.2.isNone = true then (reedsolomon_identityMatrix.l0 k bt166.1 (bt166.1.length : Int) 0) else (some (([] : List (List Int)), some (bt166.2.getD 0))))) = some (r1, r2) := h
  clear h
  replace H := Option.bind_eq_some_iff.mp H
  obtain ⟨⟨t166, t167⟩, A20, H⟩ := H
  replace H : (if t167.isNone = true then (reedsolomon_identityMatrix.l0 k t166 (t166.length : Int) 0) else (some (([] : List (List Int)), some (t167.getD 0)))) = some (r1, r2) := H
  have A2 := Aside0.mk A20
  clear A20
  rcases t167 with _ | q170
  · have H1 : (reedsolomon_identityMatrix.l0 k t166 (t166.length : Int) 0) = some (r1, r2) := by rw [if_pos (show (none : Option Int).isNone = true by rfl)] at H; exact H
    clear H
    have H := H1
    clear H1
    try simp only [errW_none, errW_some]
    have H' := Aside0.mk H
    clear H
    go_enter Tryd.func48, Tryd.ntmps48
    go_wp2_with (first | ((with_reducible refine gate_callee (f := 53) rfl ?_); refine goesL_ (some 10) rfl rfl Tryd.func53 (by kernel_rfl) rfl #[.int .i64 a0, .int .i64 a0] rfl (by (try simp only [List.map_toArray, List.map_cons, List.map_nil]); first | done | rfl | (simp only [List.length_drop, List.length_take]; rfl)) ?_; (with_reducible refine (reedsolomon_newMatrix.calls k a0 a0 t166 none _ A2.out).mono ?_); rintro e w3 ⟨v168, rfl, ho0, hb⟩; refine ⟨_, rfl, ?_⟩; have n0_ := Aside0.mk (Kd.S_lower ho0 (below_size (by repeat (first | (with_reducible first | exact HB.out | apply below_alloc | apply pw_below_drewN | apply below_drew1) | exact HB.out)))); have n1_ := Aside0.mk (below_step (by repeat (first | (with_reducible first | exact HB.out | apply below_alloc | apply pw_below_drewN | apply below_drew1) | exact HB.out)) hb); clear HB; have HO169 := n0_; have HB := n1_; clear n0_ n1_; (try clear hb); (try clear hb2); (try clear hk); (try clear hi); (try clear ho0); (try simp only [errW_none, errW_some]); obtain ⟨Ao4, co4, eo4⟩ := Kd.S_slice HO169.out; subst eo4))
    (try simp only [Act.put, List.setIfInBounds_toArray, List.set_cons_zero, List.set_cons_succ])
    go_loopg [18] k (fun kq v18 w' => ∃ (x4_1 : List (List Int)) (x18_1 : Int), v18 = .int .i64 x18_1 ∧ Aside0 (reedsolomon_identityMatrix.l0 kq x4_1 (t166.length : Int) x18_1 = some (r1, r2)) ∧ Aside0 (kq ≤ k) ∧ Aside0 (Kd.S (Kd.slice 5 (Kd.int .u8)) 24 w' w.heap.size (fun _ => True) (.slice Ao4 t166.length co4) x4_1) ∧ Aside0 (Below w.heap.size w w'))
    case atStart => exact ⟨(t166), (0), (by first | rfl | (simp; done) | (simp [*]; done)), H', ⟨Nat.le_refl _⟩, ⟨by (with_reducible repeat (first | apply Kd.S_alloc | apply Kd.S_drewN | apply Kd.S_drew)); exact HO169.out⟩, ⟨by repeat (first | (with_reducible first | exact HB.out | apply below_alloc | apply pw_below_drewN | apply below_drew1) | exact HB.out)⟩⟩
    case round =>
      clear H'
      try clear q1
      try clear p2
      try clear c4
      try clear q170
      obtain ⟨x4_1, x18_1, rfl, HA, HK1, HO_4, HB⟩ := hrel
      have hl4_1 := (Kd.S_reads' HO_4.out).1
      rw [hl4_1] at HO_4
      (try simp only [hl4_1])
      cases gk with
      | zero => exact absurd HA.out (by simp [reedsolomon_identityMatrix.l0])
      | succ k1 =>
        have H := HA.out
        clear HA
        simp only [reedsolomon_identityMatrix.l0] at H
        by_cases c5 : x18_1 < (t166.length : Int)
        · rw [if_pos c5] at H
          have c5b0 : decide (x18_1 < (t166.length : Int)) = true := decide_eq_true c5
          clear c5
          by_cases c6 : 0 ≤ x18_1
          · rw [if_pos c6] at H
            have c6b0 : decide (0 ≤ x18_1) = true := decide_eq_true c6
            clear c6
            by_cases c7 : x18_1 < (x4_1.length : Int)
            · rw [if_pos c7] at H
              have c7b0 : decide (x18_1 < (x4_1.length : Int)) = true := decide_eq_true c7
              clear c7
              by_cases c8 : x18_1 < ((rd_L1 x4_1 x18_1).length : Int)
              · rw [if_pos c8] at H
                have c8b0 : decide (x18_1 < ((rd_L1 x4_1 x18_1).length : Int)) = true := decide_eq_true c8
                clear c8
                obtain ⟨y172, hy172⟩ : ∃ y_ : List Int, y_ = ((rd_L1 x4_1 x18_1).set (x18_1 : Int).toNat 1) := ⟨_, rfl⟩
                replace H : (reedsolomon_identityMatrix.l0 k1 (x4_1.set (x18_1 : Int).toNat y172) (t166.length : Int) (wrap64 (x18_1 + 1))) = some (r1, r2) := by first | (rw [hy172]; with_reducible exact H) | (have H2_ := (Option.bind_some _ _).symm.trans H; rw [hy172]; with_reducible exact H2_) | (have H2_ := (Option.bind_some _ _).symm.trans H; with_reducible exact H2_) | with_reducible exact H | (rw [hy172]; exact H) | exact H
                have Ny172 := Aside0.mk hy172
                clear hy172
                obtain ⟨y174, hy174⟩ : ∃ y_ : List (List Int), y_ = (x4_1.set (x18_1 : Int).toNat y172) := ⟨_, rfl⟩
                replace H : (reedsolomon_identityMatrix.l0 k1 y174 (t166.length : Int) (wrap64 (x18_1 + 1))) = some (r1, r2) := by first | (rw [hy174]; with_reducible exact H) | (have H2_ := (Option.bind_some _ _).symm.trans H; rw [hy174]; with_reducible exact H2_) | (have H2_ := (Option.bind_some _ _).symm.trans H; with_reducible exact H2_) | with_reducible exact H | (rw [hy174]; exact H) | exact H
                have Ny174 := Aside0.mk hy174
                clear hy174
                have H' := Aside0.mk H
                clear H
                have p171 : 0 ≤ (x18_1 : Int) := of_decide_eq_true (by first | (with_reducible assumption) | assumption)
                have q171 : x18_1 < (x4_1.length : Int) := of_decide_eq_true (by first | (with_reducible assumption) | assumption)
                obtain ⟨ad171, A171_0, c171_0, e171, hx171_0, hl171_0, hi171_0⟩ := at_L1 (Kd.S_reads' HO_4.out).2.2 x18_1 p171 q171
                cases e171
                obtain ⟨ce171, hce171, hMe171, hcc171⟩ := Kd.S_get HO_4.out [] x18_1 p171 (by first | exact q171 | exact of_decide_eq_true (by first | (with_reducible assumption) | assumption) | (have e_ := (Kd.S_reads' HO_4.out).1; omega))
                obtain ⟨ve171_0, rfl, ge171_0⟩ := hMe171
                have hv171_0 := hcc171 0 _ rfl
                rw [Nat.add_zero, show ((Kd.slice 5 (Kd.int .u8))).sz = 1 from rfl, Nat.mul_one] at hv171_0
                replace hv171_0 := Option.some.inj (hv171_0.symm.trans hx171_0)
                rw [hv171_0] at ge171_0
                have HL171_0 := Aside0.mk (show Kd.R (Kd.int .u8) 5 _ _ _ _ (rd_L1 x4_1 x18_1) from ge171_0)
                clear hv171_0 ge171_0
                have HX171_0 := Aside0.mk hx171_0
                clear hcc171 hce171
                have HR171_0 := Aside0.mk hi171_0
                have HC171_0 := Aside0.mk hl171_0
                clear hi171_0 hl171_0
                replace p171 := eq_true p171
                replace q171 := eq_true q171
                have p9 : 0 ≤ (x18_1 : Int) := of_decide_eq_true (by first | (with_reducible assumption) | assumption)
                have q9 : (x18_1 : Int) < (((rd_L1 x4_1 x18_1).length : Int) : Int) := of_decide_eq_true (by first | (with_reducible assumption) | assumption)
                obtain ⟨go9, co9, eo9, gb9, gl9, cl9, HG9⟩ := Kd.R_form HL171_0.out (by omega)
                (first | cases eo9 | (injection eo9 with ea_ en_ ec_; (first | subst ea_ | (injection ea_ with ea_; subst ea_)); subst ec_; clear en_))
                have GB9 := Aside0.mk gb9
                have GG9 := Aside0.mk HG9
                clear gb9 gl9 HG9
                obtain ⟨hx9_0, hf9_0⟩ := Kd.R_celln 0 HL171_0.out (x18_1 : Int) p9 q9
                replace p9 := eq_true p9
                replace q9 := eq_true q9
                have hq10 : (x18_1 : Int) < (x4_1.length : Int) := (by have h_ : (x18_1 : Int) < ((x4_1.length : Int) : Int) := of_decide_eq_true (by first | (with_reducible assumption) | assumption); first | exact h_ | (have e_ := (Kd.S_reads' HO_4.out).1; omega) | simpa only [List.length_set, List.length_set] using h_)
                obtain ⟨oki10, ce10, hcl10, hM10, hcc10, hok10, hbk10⟩ := Kd.S_borrow HO_4.out [] (x18_1 : Int) (of_decide_eq_true (by first | (with_reducible assumption) | assumption)) hq10
                obtain ⟨ve10_0, rfl, ge10_0⟩ := hM10
                have hv10 := hcc10 0 _ rfl
                rw [Nat.add_zero, show ((Kd.slice 5 (Kd.int .u8))).sz = 1 from rfl, Nat.mul_one] at hv10
                replace hv10 := Option.some.inj (hv10.symm.trans HX171_0.out)
                subst hv10
                clear hcc10 hcl10
                replace ge10_0 := (show Kd.R (Kd.int .u8) 5 _ _ _ _ (rd_L1 x4_1 x18_1) from ge10_0)
                have HP10 := Kd.R_putg ge10_0 (x18_1 : Int) 1
                go_wp2_with (first | ((with_reducible refine gate_store (t := 5) (p := 26) rfl ?_); refine store_event (t := 5) (p := 26) (v := ?vo_w11) (w1 := (wr.setCell ⟨go9, (x18_1 : Int).toNat, none⟩ (.int .u8 1))) ?hg ?ho ?hn ?hr ?_; (case ho => rfl); (case hg => rfl); (case hn => rfl); (case hr => first | (go_simp; done) | (go_simp; rfl)); intro w11 hw; have hg : wr.grownBy w11 (some go9) := (by rw [hw]; exact HP10.2); have hz_ : Kd.R (Kd.int .u8) 5 w11 w.heap.size oki10 (.slice (some ⟨go9, 0, none⟩) (rd_L1 x4_1 x18_1).length c171_0) y172 := (by rw [hw, Ny172.out]; exact HP10.1); have hp_ : Kd.S (Kd.slice 5 (Kd.int .u8)) 24 w11 w.heap.size (fun _ => True) (.slice (some ad171) x4_1.length co4) y174 := (by rw [Ny174.out]; exact hbk10 hg (fun k_ e_ => by injection e_ with e_; subst e_; exact ge10_0.1 _ rfl) (Kd.M_row hz_)); have hm_ := Kd.R_mono hz_ hok10; clear HP10 hbk10; have n0_ := Aside0.mk (hp_); have n1_ := Aside0.mk ((by rw [hw]; exact below_set (HB.out) GB9.out : Below w.heap.size w w11)); have n2_ := Aside0.mk (hm_); have n3_ := Aside0.mk ((Kd.R_reads' hm_).2.1); clear HO_4; clear HB; clear HL171_0; have HO_4 := n0_; have HB := n1_; have HL175 := n2_; have HC173 := n3_; clear n0_ n1_ n2_ n3_; clear hg hw hp_ hz_ hm_ hok10))
                (try simp only [← hl4_1])
                go_roundg k1
                case measure => have := HK1.out; omega
                case rel => exact ⟨(y174), (wrap64 (x18_1 + 1)), (by first | rfl | (simp; done) | (simp [*]; done)), H', ⟨by have := HK1.out; omega⟩, ⟨by (try simp only [hl4_1]); (with_reducible repeat (first | apply Kd.S_alloc | apply Kd.S_drewN | apply Kd.S_drew)); exact HO_4.out⟩, ⟨by repeat (first | (with_reducible first | exact HB.out | apply below_alloc | apply pw_below_drewN | apply below_drew1) | exact HB.out)⟩⟩
              · rw [if_neg c8] at H
                exact absurd H (by simp)
            · rw [if_neg c7] at H
              exact absurd H (by simp)
          · rw [if_neg c6] at H
            exact absurd H (by simp)
        · rw [if_neg c5] at H
          have c5b0 : decide (x18_1 < (t166.length : Int)) = false := decide_eq_false c5
          (try (have c5r := c5b0; simp only [hl4_1] at c5r))
          clear c5
          simp only [Option.some.injEq, Prod.mk.injEq] at H
          obtain ⟨rfl, rfl⟩ := H
          go_wp2
          go_ret2
          exact ⟨_, by first | rfl | (simp [errW_none, errW_some] <;> rfl) | (simp [*, errW_none, errW_some] <;> rfl), by (with_reducible repeat (first | apply Kd.S_alloc | apply Kd.S_drewN | apply Kd.S_drew)); exact HO_4.out, by repeat (first | (with_reducible first | exact HB.out | apply below_alloc | apply pw_below_drewN | apply below_drew1) | exact HB.out)⟩
  · have H1 : (some (([] : List (List Int)), some q170)) = some (r1, r2) := by rw [if_neg (show ¬ (some q170).isNone = true by simp)] at H; exact H
    clear H
    have H := H1
    clear H1
    try simp only [errW_none, errW_some]
    simp only [Option.some.injEq, Prod.mk.injEq] at H
    obtain ⟨rfl, rfl⟩ := H
    go_enter Tryd.func48, Tryd.ntmps48
    go_wp2_with (first | ((with_reducible refine gate_callee (f := 53) rfl ?_); refine goesL_ (some 10) rfl rfl Tryd.func53 (by kernel_rfl) rfl #[.int .i64 a0, .int .i64 a0] rfl (by (try simp only [List.map_toArray, List.map_cons, List.map_nil]); first | done | rfl | (simp only [List.length_drop, List.length_take]; rfl)) ?_; (with_reducible refine (reedsolomon_newMatrix.calls k a0 a0 t166 (some q170) _ A2.out).mono ?_); rintro e w12 ⟨v168, rfl, ho0, hb⟩; refine ⟨_, rfl, ?_⟩; have n0_ := Aside0.mk (Kd.S_lower ho0 (below_size (by repeat (first | (with_reducible first | exact HB.out | apply below_alloc | apply pw_below_drewN | apply below_drew1) | exact HB.out)))); have n1_ := Aside0.mk (below_step (by repeat (first | (with_reducible first | exact HB.out | apply below_alloc | apply pw_below_drewN | apply below_drew1) | exact HB.out)) hb); clear HB; have HO169 := n0_; have HB := n1_; clear n0_ n1_; (try clear hb); (try clear hb2); (try clear hk); (try clear hi); (try clear ho0); (try simp only [errW_none, errW_some])))
    go_ret2
    exact ⟨_, by first | rfl | (simp [errW_none, errW_some] <;> rfl) | (simp [*, errW_none, errW_some] <;> rfl), by first | exact Kd.S_nil _ _ _ _ _ | exact Kd.N_nil _ _ _ _ _ | exact Kd.V_nil _ _ _ _ _ | exact Kd.Q_nil _ _ _ _ _ | exact Kd.R_nil _ _ _ _ _, by repeat (first | (with_reducible first | exact HB.out | apply below_alloc | apply pw_below_drewN | apply below_drew1) | exact HB.out)⟩

/-! ### reedsolomon_DoorIdentity: function 36 -/
def reedsolomon_DoorIdentity.f (k : Nat) (a0 : Int) : Option ((List (List Int)) × Option Int) := (reedsolomon_identityMatrix.f k a0).bind fun bt176 => (some (bt176.1, bt176.2))
theorem reedsolomon_DoorIdentity.mono : ∀ a0 k, LeO (reedsolomon_DoorIdentity.f k a0) (reedsolomon_DoorIdentity.f (k + 1) a0) := by
  intro a0 k
  unfold reedsolomon_DoorIdentity.f
  repeat' first
      | (with_reducible exact reedsolomon_identityMatrix.mono _ _)
      | (with_reducible exact LeO.refl _)
      | (with_reducible exact LeO.none _)
      | (with_reducible refine LeO.ite ?_ ?_)
      | (with_reducible refine LeO.bind ?_ (fun _ => ?_))
      | exact reedsolomon_identityMatrix.mono _ _
      | exact LeO.none _
      | refine LeO.ite ?_ ?_
      | refine LeO.bind ?_ (fun _ => ?_)
set_option maxHeartbeats 8000000 in
set_option maxRecDepth 100000 in
theorem reedsolomon_DoorIdentity.calls (k : Nat) (a0 : Int) (r1 : List (List Int)) (r2 : Option Int) (w : World) (h : reedsolomon_DoorIdentity.f k a0 = some (r1, r2)) :
    Calls Tryd.prog 36 #[.int .i64 a0] w fun e w' => ∃ v0_ : Value, e = .returned (.tuple #[v0_, errW r2]) ∧ Kd.S (Kd.slice 5 (Kd.int .u8)) 24 w' w.heap.size (fun _ => True) v0_ r1 ∧ Below w.heap.size w w' := by
  have HB := Aside0.mk (Below.refl w.heap.size w)
  have H : ((reedsolomon_identityMatrix.f k a0).bind fun bt176 => (some (bt176.1, bt176.2))) = some (r1, r2) := h
  clear h
  replace H := Option.bind_eq_some_iff.mp H
  obtain ⟨⟨t176, t177⟩, A20, H⟩ := H
  replace H : (some (t176, t177)) = some (r1, r2) := H
  have A2 := Aside0.mk A20
  clear A20
  simp only [Option.some.injEq, Prod.mk.injEq] at H
  obtain ⟨rfl, rfl⟩ := H
  go_enter Tryd.func36, Tryd.ntmps36
  go_wp2_with (first | ((with_reducible refine gate_callee (f := 48) rfl ?_); refine goesL_ (some 5) rfl rfl Tryd.func48 (by kernel_rfl) rfl #[.int .i64 a0] rfl (by (try simp only [List.map_toArray, List.map_cons, List.map_nil]); first | done | rfl | (simp only [List.length_drop, List.length_take]; rfl)) ?_; (with_reducible refine (reedsolomon_identityMatrix.calls k a0 t176 t177 _ A2.out).mono ?_); rintro e w3 ⟨v178, rfl, ho0, hb⟩; refine ⟨_, rfl, ?_⟩; have n0_ := Aside0.mk (Kd.S_lower ho0 (below_size (by repeat (first | (with_reducible first | exact HB.out | apply below_alloc | apply pw_below_drewN | apply below_drew1) | exact HB.out)))); have n1_ := Aside0.mk (below_step (by repeat (first | (with_reducible first | exact HB.out | apply below_alloc | apply pw_below_drewN | apply below_drew1) | exact HB.out)) hb); clear HB; have HO179 := n0_; have HB := n1_; clear n0_ n1_; (try clear hb); (try clear hb2); (try clear hk); (try clear hi); (try clear ho0); (try simp only [errW_none, errW_some])))
  go_ret2
  exact ⟨_, by first | rfl | (simp [errW_none, errW_some] <;> rfl) | (simp [*, errW_none, errW_some] <;> rfl), by (with_reducible repeat (first | apply Kd.S_alloc | apply Kd.S_drewN | apply Kd.S_drew)); exact HO179.out, by repeat (first | (with_reducible first | exact HB.out | apply below_alloc | apply pw_below_drewN | apply below_drew1) | exact HB.out)⟩

/-! ### impl_Identity: function 21 -/
def impl_Identity.j0 : Nat → Int → Bool → Option ((List (List Int)) × Bool)
  | 0, _, _ => none
  | k + 1, x0, x11 => if x11 = true then (some (([] : List (List Int)), false)) else ((reedsolomon_DoorIdentity.f k x0).bind fun bt180 => ((impl_rows.f k bt180.1).bind fun t184 => (if bt180.2.isNone = true then (some (t184, true)) else (some (t184, false)))))
def impl_Identity.f (k : Nat) (a0 : Int) : Option ((List (List Int)) × Bool) := if a0 < 1 then (impl_Identity.j0 k a0 true) else (impl_Identity.j0 k a0 (decide (a0 > 256)))
theorem impl_Identity.mono_l : ∀ k, (∀ y0 y1, LeO (impl_Identity.j0 k y0 y1) (impl_Identity.j0 (k + 1) y0 y1))
  | 0 => fun _ _ r h => by simp [impl_Identity.j0] at h
  | k + 1 => by
    have ih0 := impl_Identity.mono_l k
    · intro y0 y1
      unfold impl_Identity.j0
      repeat' first
      | (with_reducible exact ih0 _ _)
      | (with_reducible exact impl_rows.mono _ _)
      | (with_reducible exact reedsolomon_DoorIdentity.mono _ _)
      | (with_reducible exact LeO.refl _)
      | (with_reducible exact LeO.none _)
      | (with_reducible refine LeO.ite ?_ ?_)
      | (with_reducible refine LeO.bind ?_ (fun _ => ?_))
      | exact ih0 _ _
      | exact impl_rows.mono _ _
      | exact reedsolomon_DoorIdentity.mono _ _
      | exact LeO.none _
      | refine LeO.ite ?_ ?_
      | refine LeO.bind ?_ (fun _ => ?_)
theorem impl_Identity.mono : ∀ a0 k, LeO (impl_Identity.f k a0) (impl_Identity.f (k + 1) a0) := by
  intro a0 k
  have ih0 := impl_Identity.mono_l k
  unfold impl_Identity.f
  repeat' first
      | (with_reducible exact ih0 _ _)
      | (with_reducible exact impl_rows.mono _ _)
      | (with_reducible exact reedsolomon_DoorIdentity.mono _ _)
      | (with_reducible exact LeO.refl _)
      | (with_reducible exact LeO.none _)
      | (with_reducible refine LeO.ite ?_ ?_)
      | (with_reducible refine LeO.bind ?_ (fun _ => ?_))
      | exact ih0 _ _
      | exact impl_rows.mono _ _
      | exact reedsolomon_DoorIdentity.mono _ _
      | exact LeO.none _
      | refine LeO.ite ?_ ?_
      | refine LeO.bind ?_ (fun _ => ?_)
set_option maxHeartbeats 8000000 in
set_option maxRecDepth 100000 in
theorem impl_Identity.calls (k : Nat) (a0 : Int) (r1 : List (List Int)) (r2 : Bool) (w : World) (h : impl_Identity.f k a0 = some (r1, r2)) :
    Calls Tryd.prog 21 #[.int .i64 a0] w fun e w' => ∃ v0_ : Value, e = .returned (.tuple #[v0_, .bool r2]) ∧ Kd.S (Kd.slice 5 (Kd.int .u8)) 24 w' w.heap.size (fun _ => True) v0_ r1 ∧ Below w.heap.size w w' := by
  have hu46 := Tryd.underlying46
  have HB := Aside0.mk (Below.refl w.heap.size w)
  have H : (if a0 < 1 then (impl_Identity.j0 k a0 true) else (impl_Identity.j0 k a0 (decide (a0 > 256)))) = some (r1, r2) := h
  clear h
  have HC2 := Aside0.mk H
  clear H
  go_enter Tryd.func21, Tryd.ntmps21
  go_upto_region 1 with (fail)
  go_cut [11] (fun v11 wc => ∃ (kq : Nat) (x11_1 : Bool), v11 = .bool x11_1 ∧ Aside0 (impl_Identity.j0 kq a0 x11_1 = some (r1, r2)) ∧ Aside0 (kq ≤ k) ∧ Aside0 (Below w.heap.size w wc))
  case first =>
    have H := HC2.out
    clear HC2
    by_cases c3 : a0 < 1
    · rw [if_pos c3] at H
      have c3b0 : decide (a0 < 1) = true := decide_eq_true c3
      clear c3
      (first | rw [c3b0] | (simp only [i64_w, i32_w]; rw [c3b0]) | skip)
      have H' := Aside0.mk H
      clear H
      go_wp2
      go_meet
      case rel => exact ⟨_, (true), (by first | rfl | (simp; done) | (simp [*]; done)), H', ⟨by first | omega | exact Nat.le_refl _⟩, ⟨by repeat (first | (with_reducible first | exact HB.out | apply below_alloc | apply pw_below_drewN | apply below_drew1) | exact HB.out)⟩⟩
    · rw [if_neg c3] at H
      have c3b0 : decide (a0 < 1) = false := decide_eq_false c3
      clear c3
      (first | rw [c3b0] | (simp only [i64_w, i32_w]; rw [c3b0]) | skip)
      have H' := Aside0.mk H
      clear H
      go_wp2
      go_meet
      case rel => exact ⟨_, (decide (a0 > 256)), (by first | rfl | (simp; done) | (simp [*]; done)), H', ⟨by first | omega | exact Nat.le_refl _⟩, ⟨by repeat (first | (with_reducible first | exact HB.out | apply below_alloc | apply pw_below_drewN | apply below_drew1) | exact HB.out)⟩⟩
  case rest =>
    clear HC2
    try clear c2
    try clear p2
    try clear c3
    try clear c3b0
    obtain ⟨kq, x11_1, rfl, HA, HJ1, HB⟩ := hcut
    cases kq with
    | zero => exact absurd HA.out (by simp [impl_Identity.j0])
    | succ kj1 =>
      have H := HA.out
      clear HA
      simp only [impl_Identity.j0] at H
      by_cases c4 : x11_1 = true
      · subst c4
        have H1 : (some (([] : List (List Int)), false)) = some (r1, r2) := by rw [if_pos rfl] at H; exact H
        clear H
        have H := H1
        clear H1
        simp only [Option.some.injEq, Prod.mk.injEq] at H
        obtain ⟨rfl, rfl⟩ := H
        go_wp2
        go_ret2
        exact ⟨_, by first | rfl | (simp [errW_none, errW_some] <;> rfl) | (simp [*, errW_none, errW_some] <;> rfl), by first | exact Kd.S_nil _ _ _ _ _ | exact Kd.N_nil _ _ _ _ _ | exact Kd.V_nil _ _ _ _ _ | exact Kd.Q_nil _ _ _ _ _ | exact Kd.R_nil _ _ _ _ _, by repeat (first | (with_reducible first | exact HB.out | apply below_alloc | apply pw_below_drewN | apply below_drew1) | exact HB.out)⟩
      · replace c4 := Bool.eq_false_iff.mpr c4
        subst c4
        have H1 : ((reedsolomon_DoorIdentity.f kj1 a0).bind fun bt180 => ((impl_rows.f kj1 bt180.1).bind fun t184 => (if bt180.2.isNone = true then (some (t184, true)) else (some (t184, false))))) = some (r1, r2) := by rw [if_neg (show ¬ (false = true) by decide)] at H; exact H
        clear H
        have H := H1
        clear H1
        replace H := Option.bind_eq_some_iff.mp H
        obtain ⟨⟨t180, t181⟩, A50, H⟩ := H
        replace H : ((impl_rows.f kj1 t180).bind fun t184 => (if t181.isNone = true then (some (t184, true)) else (some (t184, false)))) = some (r1, r2) := H
        have A5 := Aside0.mk A50
        clear A50
        replace H := Option.bind_eq_some_iff.mp H
        obtain ⟨t184, A60, H⟩ := H
        replace H : (if t181.isNone = true then (some (t184, true)) else (some (t184, false))) = some (r1, r2) := H
        have A6 := Aside0.mk A60
        clear A60
        rcases t181 with _ | q187
        · have H1 : (some (t184, true)) = some (r1, r2) := by rw [if_pos (show (none : Option Int).isNone = true by rfl)] at H; exact H
          clear H
          have H := H1
          clear H1
          try simp only [errW_none, errW_some]
          simp only [Option.some.injEq, Prod.mk.injEq] at H
          obtain ⟨rfl, rfl⟩ := H
          try go_wp2_with (first | ((with_reducible refine gate_callee (f := 36) rfl ?_); refine goesL_ (some 14) rfl rfl Tryd.func36 (by kernel_rfl) rfl #[.int .i64 a0] rfl (by (try simp only [List.map_toArray, List.map_cons, List.map_nil]); first | done | rfl | (simp only [List.length_drop, List.length_take]; rfl)) ?_; (with_reducible refine (reedsolomon_DoorIdentity.calls kj1 a0 t180 none _ A5.out).mono ?_); rintro e w7 ⟨v182, rfl, ho0, hb⟩; refine ⟨_, rfl, ?_⟩; have n0_ := Aside0.mk (Kd.S_lower ho0 (below_size (by repeat (first | (with_reducible first | exact HB.out | apply below_alloc | apply pw_below_drewN | apply below_drew1) | exact HB.out)))); have n1_ := Aside0.mk (below_step (by repeat (first | (with_reducible first | exact HB.out | apply below_alloc | apply pw_below_drewN | apply below_drew1) | exact HB.out)) hb); clear HB; have HO183 := n0_; have HB := n1_; clear n0_ n1_; (try clear hb); (try clear hb2); (try clear hk); (try clear hi); (try clear ho0); (try simp only [errW_none, errW_some])))
          have n0_ := Aside0.mk (Kd.S_drew HO183.out)
          have n1_ := Aside0.mk (below_drew1 HB.out)
          clear HO183
          clear HB
          have HO183 := n0_
          have HB := n1_
          clear n0_ n1_
          obtain ⟨Ao9, co9, eo9⟩ := Kd.S_slice HO183.out
          (first | subst eo9 | (injection eo9 with f1_ f2_ f3_; have f4_ := f1_.symm; have f5_ := f3_.symm; clear f1_ f2_ f3_; subst f4_; subst f5_))
          refine start_ (n := 6) (S := fun w' => True) (ds := []) #[false, false, false, false, false, false] (by kernel_rfl) rfl rfl trivial (fun hHeld => ?_)
          generalize w7.drew = w8 at HO183 HB hHeld ⊢
          refine pure_ (i := 0) (N := some 17) (v := ?_) (a' := ?_) #[true, false, false, false, false, false] rfl rfl (by kernel_rfl) (fun _ _ _ h => h) (Or.inl ⟨by rfl, ?_⟩) ?_ ?_
          rotate_left
          · intro w'
            go_simp
            with_reducible rfl
          rotate_left
          · simp only [Act.put, List.setIfInBounds_toArray, List.set_cons_zero, List.set_cons_succ, i64_w, i32_w]
            rfl
          refine pure_ (i := 2) (N := some 19) (v := ?_) (a' := ?_) #[true, false, true, false, false, false] rfl rfl (by kernel_rfl) (fun _ _ _ h => h) (Or.inl ⟨by rfl, ?_⟩) ?_ ?_
          rotate_left
          · intro w'
            go_simp
            with_reducible rfl
          rotate_left
          · simp only [Act.put, List.setIfInBounds_toArray, List.set_cons_zero, List.set_cons_succ, i64_w, i32_w]
            rfl
          refine pure_ (i := 3) (N := some 20) (v := ?_) (a' := ?_) #[true, false, true, true, false, false] rfl rfl (by kernel_rfl) (fun _ _ _ h => h) (Or.inl ⟨by rfl, ?_⟩) ?_ ?_
          rotate_left
          · intro w'
            go_simp
            with_reducible rfl
          rotate_left
          · simp only [Act.put, List.setIfInBounds_toArray, List.set_cons_zero, List.set_cons_succ, i64_w, i32_w]
            rfl
          refine one_ (i := 1) (N := some 18) #[true, true, true, true, false, false] rfl rfl (by kernel_rfl) (by decide) (fun K hK => ?_)
          refine goes_ Tryd.func31 (by kernel_rfl) rfl #[.slice Ao9 t180.length co9] (by rfl) rfl rfl (by (try simp only [List.map_toArray, List.map_cons, List.map_nil]); first | done | rfl | (simp only [List.length_drop, List.length_take]; rfl)) ?_
          with_reducible refine (impl_rows.calls kj1 _ _ t180 t184 _ ?side1 ?side2 A6.out).mono ?_
          (case side1 => repeat (first | exact (Kd.S_reads' HO183.out).2.2 | (with_reducible refine Kd.C_alloc ?_ _) | (with_reducible refine Kd.C_drewN ?_ _) | (with_reducible refine Kd.C_drew ?_)))
          (case side2 => exact (Kd.S_reads' HO183.out).2.1)
          rintro e w10 ⟨v185, rfl, ho0, hb⟩
          refine ⟨_, rfl, ?_⟩
          have n0_ := Aside0.mk (Kd.S_elder' (by (with_reducible repeat (first | apply Kd.S_alloc | apply Kd.S_drewN | apply Kd.S_drew)); exact HO183.out) (Kd.S_base ho0) hb)
          have n1_ := Aside0.mk (Kd.S_lower (Kd.S_new' ho0 (Kd.S_lt (by (with_reducible repeat (first | apply Kd.S_alloc | apply Kd.S_drewN | apply Kd.S_drew)); exact HO183.out))) (below_size (by repeat (first | (with_reducible first | exact HB.out | apply below_alloc | apply pw_below_drewN | apply below_drew1) | exact HB.out))))
          have n2_ := Aside0.mk (below_step (by repeat (first | (with_reducible first | exact HB.out | apply below_alloc | apply pw_below_drewN | apply below_drew1) | exact HB.out)) hb)
          clear HO183
          clear HB
          have HO183 := n0_
          have HO186 := n1_
          have HB := n2_
          clear n0_ n1_ n2_
          (try clear hb)
          (try clear hb2)
          (try clear hk)
          (try clear hi)
          (try clear ho0)
          refine hK.out _ _ trivial (fun hHeld => ?_)
          clear hK K
          refine norm_ (a' := ?_) ?_ ?_
          rotate_left
          · show Act.put _ (some 18) _ = _
            simp only [Act.put, List.setIfInBounds_toArray, List.set_cons_zero, List.set_cons_succ, i64_w, i32_w]
            rfl
          refine pure_ (i := 4) (N := some 2) (v := ?_) (a' := ?_) #[true, true, true, true, true, false] rfl rfl (by kernel_rfl) (fun _ _ _ h => h) (Or.inl ⟨by rfl, ?_⟩) ?_ ?_
          rotate_left
          · intro w'
            go_simp
            with_reducible rfl
          rotate_left
          · simp only [Act.put, List.setIfInBounds_toArray, List.set_cons_zero, List.set_cons_succ, i64_w, i32_w]
            rfl
          refine pure_ (i := 5) (N := some 3) (v := ?_) (a' := ?_) #[true, true, true, true, true, true] rfl rfl (by kernel_rfl) (fun _ _ _ h => h) (Or.inl ⟨by rfl, ?_⟩) ?_ ?_
          rotate_left
          · intro w'
            go_simp
            with_reducible rfl
          rotate_left
          · simp only [Act.put, List.setIfInBounds_toArray, List.set_cons_zero, List.set_cons_succ, i64_w, i32_w]
            rfl
          refine done_ (by kernel_rfl) ?_
          try go_wp2
          go_ret2
          exact ⟨_, by first | rfl | (simp [errW_none, errW_some] <;> rfl) | (simp [*, errW_none, errW_some] <;> rfl), by (with_reducible repeat (first | apply Kd.S_alloc | apply Kd.S_drewN | apply Kd.S_drew)); exact Kd.S_mono HO186.out (fun _ hk => trivial), by repeat (first | (with_reducible first | exact HB.out | apply below_alloc | apply pw_below_drewN | apply below_drew1) | exact HB.out)⟩
        · have H1 : (some (t184, false)) = some (r1, r2) := by rw [if_neg (show ¬ (some q187).isNone = true by simp)] at H; exact H
          clear H
          have H := H1
          clear H1
          try simp only [errW_none, errW_some]
          simp only [Option.some.injEq, Prod.mk.injEq] at H
          obtain ⟨rfl, rfl⟩ := H
          try go_wp2_with (first | ((with_reducible refine gate_callee (f := 36) rfl ?_); refine goesL_ (some 14) rfl rfl Tryd.func36 (by kernel_rfl) rfl #[.int .i64 a0] rfl (by (try simp only [List.map_toArray, List.map_cons, List.map_nil]); first | done | rfl | (simp only [List.length_drop, List.length_take]; rfl)) ?_; (with_reducible refine (reedsolomon_DoorIdentity.calls kj1 a0 t180 (some q187) _ A5.out).mono ?_); rintro e w11 ⟨v182, rfl, ho0, hb⟩; refine ⟨_, rfl, ?_⟩; have n0_ := Aside0.mk (Kd.S_lower ho0 (below_size (by repeat (first | (with_reducible first | exact HB.out | apply below_alloc | apply pw_below_drewN | apply below_drew1) | exact HB.out)))); have n1_ := Aside0.mk (below_step (by repeat (first | (with_reducible first | exact HB.out | apply below_alloc | apply pw_below_drewN | apply below_drew1) | exact HB.out)) hb); clear HB; have HO183 := n0_; have HB := n1_; clear n0_ n1_; (try clear hb); (try clear hb2); (try clear hk); (try clear hi); (try clear ho0); (try simp only [errW_none, errW_some])))
          have n0_ := Aside0.mk (Kd.S_drew HO183.out)
          have n1_ := Aside0.mk (below_drew1 HB.out)
          clear HO183
          clear HB
          have HO183 := n0_
          have HB := n1_
          clear n0_ n1_
          obtain ⟨Ao13, co13, eo13⟩ := Kd.S_slice HO183.out
          (first | subst eo13 | (injection eo13 with f1_ f2_ f3_; have f4_ := f1_.symm; have f5_ := f3_.symm; clear f1_ f2_ f3_; subst f4_; subst f5_))
          refine start_ (n := 6) (S := fun w' => True) (ds := []) #[false, false, false, false, false, false] (by kernel_rfl) rfl rfl trivial (fun hHeld => ?_)
          generalize w11.drew = w12 at HO183 HB hHeld ⊢
          refine pure_ (i := 0) (N := some 17) (v := ?_) (a' := ?_) #[true, false, false, false, false, false] rfl rfl (by kernel_rfl) (fun _ _ _ h => h) (Or.inl ⟨by rfl, ?_⟩) ?_ ?_
          rotate_left
          · intro w'
            go_simp
            with_reducible rfl
          rotate_left
          · simp only [Act.put, List.setIfInBounds_toArray, List.set_cons_zero, List.set_cons_succ, i64_w, i32_w]
            rfl
          refine pure_ (i := 2) (N := some 19) (v := ?_) (a' := ?_) #[true, false, true, false, false, false] rfl rfl (by kernel_rfl) (fun _ _ _ h => h) (Or.inl ⟨by rfl, ?_⟩) ?_ ?_
          rotate_left
          · intro w'
            go_simp
            with_reducible rfl
          rotate_left
          · simp only [Act.put, List.setIfInBounds_toArray, List.set_cons_zero, List.set_cons_succ, i64_w, i32_w]
            rfl
          refine pure_ (i := 3) (N := some 20) (v := ?_) (a' := ?_) #[true, false, true, true, false, false] rfl rfl (by kernel_rfl) (fun _ _ _ h => h) (Or.inl ⟨by rfl, ?_⟩) ?_ ?_
          rotate_left
          · intro w'
            go_simp
            with_reducible rfl
          rotate_left
          · simp only [Act.put, List.setIfInBounds_toArray, List.set_cons_zero, List.set_cons_succ, i64_w, i32_w]
            rfl
          refine one_ (i := 1) (N := some 18) #[true, true, true, true, false, false] rfl rfl (by kernel_rfl) (by decide) (fun K hK => ?_)
          refine goes_ Tryd.func31 (by kernel_rfl) rfl #[.slice Ao13 t180.length co13] (by rfl) rfl rfl (by (try simp only [List.map_toArray, List.map_cons, List.map_nil]); first | done | rfl | (simp only [List.length_drop, List.length_take]; rfl)) ?_
          with_reducible refine (impl_rows.calls kj1 _ _ t180 t184 _ ?side1 ?side2 A6.out).mono ?_
          (case side1 => repeat (first | exact (Kd.S_reads' HO183.out).2.2 | (with_reducible refine Kd.C_alloc ?_ _) | (with_reducible refine Kd.C_drewN ?_ _) | (with_reducible refine Kd.C_drew ?_)))
          (case side2 => exact (Kd.S_reads' HO183.out).2.1)
          rintro e w14 ⟨v185, rfl, ho0, hb⟩
          refine ⟨_, rfl, ?_⟩
          have n0_ := Aside0.mk (Kd.S_elder' (by (with_reducible repeat (first | apply Kd.S_alloc | apply Kd.S_drewN | apply Kd.S_drew)); exact HO183.out) (Kd.S_base ho0) hb)
          have n1_ := Aside0.mk (Kd.S_lower (Kd.S_new' ho0 (Kd.S_lt (by (with_reducible repeat (first | apply Kd.S_alloc | apply Kd.S_drewN | apply Kd.S_drew)); exact HO183.out))) (below_size (by repeat (first | (with_reducible first | exact HB.out | apply below_alloc | apply pw_below_drewN | apply below_drew1) | exact HB.out))))
          have n2_ := Aside0.mk (below_step (by repeat (first | (with_reducible first | exact HB.out | apply below_alloc | apply pw_below_drewN | apply below_drew1) | exact HB.out)) hb)
          clear HO183
          clear HB
          have HO183 := n0_
          have HO186 := n1_
          have HB := n2_
          clear n0_ n1_ n2_
          (try clear hb)
          (try clear hb2)
          (try clear hk)
          (try clear hi)
          (try clear ho0)
          refine hK.out _ _ trivial (fun hHeld => ?_)
          clear hK K
          refine norm_ (a' := ?_) ?_ ?_
          rotate_left
          · show Act.put _ (some 18) _ = _
            simp only [Act.put, List.setIfInBounds_toArray, List.set_cons_zero, List.set_cons_succ, i64_w, i32_w]
            rfl
          refine pure_ (i := 4) (N := some 2) (v := ?_) (a' := ?_) #[true, true, true, true, true, false] rfl rfl (by kernel_rfl) (fun _ _ _ h => h) (Or.inl ⟨by rfl, ?_⟩) ?_ ?_
          rotate_left
          · intro w'
            go_simp
            with_reducible rfl
          rotate_left
          · simp only [Act.put, List.setIfInBounds_toArray, List.set_cons_zero, List.set_cons_succ, i64_w, i32_w]
            rfl
          refine pure_ (i := 5) (N := some 3) (v := ?_) (a' := ?_) #[true, true, true, true, true, true] rfl rfl (by kernel_rfl) (fun _ _ _ h => h) (Or.inl ⟨by rfl, ?_⟩) ?_ ?_
          rotate_left
          · intro w'
            go_simp
            with_reducible rfl
          rotate_left
          · simp only [Act.put, List.setIfInBounds_toArray, List.set_cons_zero, List.set_cons_succ, i64_w, i32_w]
            rfl
          refine done_ (by kernel_rfl) ?_
          try go_wp2
          go_ret2
          exact ⟨_, by first | rfl | (simp [errW_none, errW_some] <;> rfl) | (simp [*, errW_none, errW_some] <;> rfl), by (with_reducible repeat (first | apply Kd.S_alloc | apply Kd.S_drewN | apply Kd.S_drew)); exact Kd.S_mono HO186.out (fun _ hk => trivial), by repeat (first | (with_reducible first | exact HB.out | apply below_alloc | apply pw_below_drewN | apply below_drew1) | exact HB.out)⟩

end Go.Proofs.YtpjfokolbgcbhaaDoor.Qm
