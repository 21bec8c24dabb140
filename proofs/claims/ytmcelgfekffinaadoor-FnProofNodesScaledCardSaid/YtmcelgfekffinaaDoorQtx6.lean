-- Written by wip/tools/myprint.py for this seat (the kit's print with changes); Lean checks it.
import Derived.Test.YtmcelgfekffinaaDoorQtx0
import Derived.Test.YtmcelgfekffinaaDoorQtx2
import Derived.Test.YtmcelgfekffinaaDoorQtx4
import Derived.Test.YtmcelgfekffinaaDoorQtx5
namespace Go.Proofs.YtmcelgfekffinaaDoor.Qt
open Go.RowKit Go.Proofs.YtmcelgfekffinaaDoorW.PrintWords Go.Proofs.YtmcelgfekffinaaDoorW.PrintLast Go.Proofs.YtmcelgfekffinaaDoorW.PrintMore
attribute [local go_sem] max2_int min2_int max_two min_two max_three min_three max_four min_four   -- for this text's walks alone
set_option linter.unusedVariables false
set_option linter.unusedSimpArgs false

/-! ### laws_FnProofNodesScaled: function 4 -/
def laws_FnProofNodesScaled.j0 : Nat → Int → Int → Int → Bool → Option (Bool)
  | 0, _, _, _, _ => none
  | k + 1, x0, x1, x2, x17 => if x17 = true then (some true) else ((impl_ProofNodes.f k x0 0 x1).bind fun bt234 => (if 0 ≤ x2 then ((impl_ProofNodes.f k x0 (IntKind.u64.wrap (x2)) (shl .u64 x1 x2)).bind fun bt241 => ((laws_raised.f k bt234.1 x2).bind fun t250 => ((spec_SameProof.f k t250 (IntKind.u64.wrap (bt234.2.1 + (IntKind.u64.wrap (x2)))) bt234.2.2.1 bt234.2.2.2.1 bt234.2.2.2.2 bt241.1 bt241.2.1 bt241.2.2.1 bt241.2.2.2.1 bt241.2.2.2.2).bind fun t253 => (if t253 = true then (some (decide ((t250.length : Int) > 0))) else (some false))))) else (none)))
def laws_FnProofNodesScaled.f (k : Nat) (a0 : Int) (a1 : Int) (a2 : Int) : Option (Bool) := if a0 ≥ a1 then (laws_FnProofNodesScaled.j0 k a0 a1 a2 true) else ((laws_scalable.f a1 a2).bind fun t233 => (laws_FnProofNodesScaled.j0 k a0 a1 a2 (!t233)))
theorem laws_FnProofNodesScaled.mono_l : ∀ k, (∀ y0 y1 y2 y3, LeO (laws_FnProofNodesScaled.j0 k y0 y1 y2 y3) (laws_FnProofNodesScaled.j0 (k + 1) y0 y1 y2 y3))
  | 0 => fun _ _ _ _ r h => by simp [laws_FnProofNodesScaled.j0] at h
  | k + 1 => by
    have ih0 := laws_FnProofNodesScaled.mono_l k
    · intro y0 y1 y2 y3
      unfold laws_FnProofNodesScaled.j0
      repeat' first
      | (with_reducible exact ih0 _ _ _ _)
      | (with_reducible exact impl_ProofNodes.mono _ _ _ _)
      | (with_reducible exact laws_raised.mono _ _ _)
      | (with_reducible exact spec_SameProof.mono _ _ _ _ _ _ _ _ _ _ _)
      | (with_reducible exact LeO.refl _)
      | (with_reducible exact LeO.none _)
      | (with_reducible refine LeO.ite ?_ ?_)
      | (with_reducible refine LeO.bind ?_ (fun _ => ?_))
      | exact ih0 _ _ _ _
      | exact impl_ProofNodes.mono _ _ _ _
      | exact laws_raised.mono _ _ _
      | exact spec_SameProof.mono _ _ _ _ _ _ _ _ _ _ _
      | exact LeO.none _
      | refine LeO.ite ?_ ?_
      | refine LeO.bind ?_ (fun _ => ?_)
theorem laws_FnProofNodesScaled.mono : ∀ a0 a1 a2 k, LeO (laws_FnProofNodesScaled.f k a0 a1 a2) (laws_FnProofNodesScaled.f (k + 1) a0 a1 a2) := by
  intro a0 a1 a2 k
  have ih0 := laws_FnProofNodesScaled.mono_l k
  unfold laws_FnProofNodesScaled.f
  repeat' first
      | (with_reducible exact ih0 _ _ _ _)
      | (with_reducible exact impl_ProofNodes.mono _ _ _ _)
      | (with_reducible exact laws_raised.mono _ _ _)
      | (with_reducible exact spec_SameProof.mono _ _ _ _ _ _ _ _ _ _ _)
      | (with_reducible exact LeO.refl _)
      | (with_reducible exact LeO.none _)
      | (with_reducible refine LeO.ite ?_ ?_)
      | (with_reducible refine LeO.bind ?_ (fun _ => ?_))
      | exact ih0 _ _ _ _
      | exact impl_ProofNodes.mono _ _ _ _
      | exact laws_raised.mono _ _ _
      | exact spec_SameProof.mono _ _ _ _ _ _ _ _ _ _ _
      | exact LeO.none _
      | refine LeO.ite ?_ ?_
      | refine LeO.bind ?_ (fun _ => ?_)
def laws_FnProofNodesScaled.T3 : Bool × List (List Nat × List Nat) := (true, [([], []), ([], []), ([0, 1], [0, 1]), ([], []), ([], []), ([4], [4]), ([], []), ([], []), ([6, 7], [6, 7]), ([3, 5, 8, 2], [3, 5, 8]), ([], []), ([], []), ([10, 2, 9, 0, 1, 2, 10, 11], [2, 10]), ([11, 9, 12, 0, 1, 2, 3, 4, 5, 6, 7, 8, 9, 10, 11, 12], [9, 11])])
def laws_FnProofNodesScaled.B3 : List Nat := [0, 0, 3, 0, 0, 16, 0, 0, 192, 511, 0, 0, 4095, 8191]
theorem laws_FnProofNodesScaled.tab3 : rtab .any (opsOf Tryd.f4 3) = laws_FnProofNodesScaled.T3 := by kernel_rfl
theorem laws_FnProofNodesScaled.bits3 : waitsOk laws_FnProofNodesScaled.T3.2 laws_FnProofNodesScaled.B3 = true := by kernel_rfl
def laws_FnProofNodesScaled.T4 : Bool × List (List Nat × List Nat) := (true, [([], []), ([0], [0]), ([], []), ([1, 2], [1, 2]), ([], []), ([4], [4]), ([5], [5]), ([], []), ([7], [7]), ([6, 8], [6, 8]), ([0, 1, 2, 3, 4, 5, 6], []), ([10, 3, 3, 0, 1, 2, 3, 4, 5, 6], [3, 10]), ([0, 1, 2, 3, 4, 5, 6, 7, 8, 9, 10, 11], []), ([12, 0, 1, 2, 3, 4, 5, 6, 7, 8, 9, 10, 11], [12]), ([13, 9, 11, 0, 1, 2, 3, 4, 5, 6, 7, 8, 9, 10, 11], [9, 13])])
def laws_FnProofNodesScaled.B4 : List Nat := [0, 1, 0, 7, 0, 16, 48, 0, 128, 496, 127, 1151, 4095, 8191, 16383]
theorem laws_FnProofNodesScaled.tab4 : rtab .any (opsOf Tryd.f4 4) = laws_FnProofNodesScaled.T4 := by kernel_rfl
theorem laws_FnProofNodesScaled.bits4 : waitsOk laws_FnProofNodesScaled.T4.2 laws_FnProofNodesScaled.B4 = true := by kernel_rfl
set_option maxHeartbeats 8000000 in
set_option maxRecDepth 100000 in
theorem laws_FnProofNodesScaled.calls (k : Nat) (a0 : Int) (a1 : Int) (a2 : Int) (r : Bool) (w : World) (HG_ : Glob w) (h : laws_FnProofNodesScaled.f k a0 a1 a2 = some r) :
    Calls Tryd.prog 4 #[.int .u64 a0, .int .u64 a1, .int .i64 a2] w fun e w' => e = .returned (.bool r) ∧ Below w.heap.size w w' := by
  have hu36 := Tryd.underlying36
  have HG := Aside0.mk HG_
  clear HG_
  have HB := Aside0.mk (Below.refl w.heap.size w)
  have H : (if a0 ≥ a1 then (laws_FnProofNodesScaled.j0 k a0 a1 a2 true) else ((laws_scalable.f a1 a2).bind fun t233 => (laws_FnProofNodesScaled.j0 k a0 a1 a2 (!t233)))) = some r := h
  clear h
  have HC4 := Aside0.mk H
  clear H
  go_enter Tryd.func4, Tryd.ntmps4
  go_upto_region 1 with (fail)
  go_cut [17] (fun v17 wc => ∃ (kq : Nat) (x17_3 : Bool), v17 = .bool x17_3 ∧ Aside0 (laws_FnProofNodesScaled.j0 kq a0 a1 a2 x17_3 = some r) ∧ Aside0 (kq ≤ k) ∧ Aside0 (Below w.heap.size w wc))
  case first =>
    have H := HC4.out
    clear HC4
    by_cases c5 : a0 ≥ a1
    · rw [if_pos c5] at H
      have c5b0 : decide (a1 ≤ a0) = true := decide_eq_true c5
      clear c5
      (first | rw [c5b0] | (simp only [i64_w, i32_w]; rw [c5b0]) | skip)
      have H' := Aside0.mk H
      clear H
      go_wp2
      go_meet
      case rel => exact ⟨_, (true), (by first | rfl | (simp; done) | (simp [*]; done)), H', ⟨by first | omega | exact Nat.le_refl _⟩, ⟨by repeat (first | (with_reducible first | exact HB.out | apply below_alloc | apply pw_below_drewN | apply below_drew1) | exact HB.out)⟩⟩
    · rw [if_neg c5] at H
      have c5b0 : decide (a1 ≤ a0) = false := decide_eq_false c5
      clear c5
      (first | rw [c5b0] | (simp only [i64_w, i32_w]; rw [c5b0]) | skip)
      replace H := Option.bind_eq_some_iff.mp H
      obtain ⟨t233, A60, H⟩ := H
      replace H : (laws_FnProofNodesScaled.j0 k a0 a1 a2 (!t233)) = some r := H
      have A6 := Aside0.mk A60
      clear A60
      have H' := Aside0.mk H
      clear H
      go_wp2_with (first | (go_at_call 11; (with_reducible refine (laws_scalable.calls a1 a2 t233 _ A6.out).mono ?_); rintro e w' ⟨rfl, ⟨nd, rfl⟩⟩))
      go_meet
      case rel => exact ⟨_, (!t233), (by first | rfl | (simp; done) | (simp [*]; done)), H', ⟨by first | omega | exact Nat.le_refl _⟩, ⟨by repeat (first | (with_reducible first | exact HB.out | apply below_alloc | apply pw_below_drewN | apply below_drew1) | exact HB.out)⟩⟩
  case rest =>
    clear HC4
    try clear p2
    try clear c4
    try clear c5
    try clear c5b0
    obtain ⟨kq, x17_3, rfl, HA, HJ3, HB⟩ := hcut
    cases kq with
    | zero => exact absurd HA.out (by simp [laws_FnProofNodesScaled.j0])
    | succ kj3 =>
      have H := HA.out
      clear HA
      simp only [laws_FnProofNodesScaled.j0] at H
      by_cases c7 : x17_3 = true
      · subst c7
        have H1 : (some true) = some r := by rw [if_pos rfl] at H; exact H
        clear H
        have H := H1
        clear H1
        obtain rfl := Option.some.inj H
        go_wp2
        go_ret
        exact ⟨by first | rfl | (simp [errW_none, errW_some] <;> rfl) | (simp [*, errW_none, errW_some] <;> rfl), by repeat (first | (with_reducible first | exact HB.out | apply below_alloc | apply pw_below_drewN | apply below_drew1) | exact HB.out)⟩
      · replace c7 := Bool.eq_false_iff.mpr c7
        subst c7
        have H1 : ((impl_ProofNodes.f kj3 a0 0 a1).bind fun bt234 => (if 0 ≤ a2 then ((impl_ProofNodes.f kj3 a0 (IntKind.u64.wrap (a2)) (shl .u64 a1 a2)).bind fun bt241 => ((laws_raised.f kj3 bt234.1 a2).bind fun t250 => ((spec_SameProof.f kj3 t250 (IntKind.u64.wrap (bt234.2.1 + (IntKind.u64.wrap (a2)))) bt234.2.2.1 bt234.2.2.2.1 bt234.2.2.2.2 bt241.1 bt241.2.1 bt241.2.2.1 bt241.2.2.2.1 bt241.2.2.2.2).bind fun t253 => (if t253 = true then (some (decide ((t250.length : Int) > 0))) else (some false))))) else (none))) = some r := by rw [if_neg (show ¬ (false = true) by decide)] at H; exact H
        clear H
        have H := H1
        clear H1
        replace H := Option.bind_eq_some_iff.mp H
        obtain ⟨⟨t234, t237, t238, t239, t240⟩, A80, H⟩ := H
        replace H : (if 0 ≤ a2 then ((impl_ProofNodes.f kj3 a0 (IntKind.u64.wrap (a2)) (shl .u64 a1 a2)).bind fun bt241 => ((laws_raised.f kj3 t234 a2).bind fun t250 => ((spec_SameProof.f kj3 t250 (IntKind.u64.wrap (t237 + (IntKind.u64.wrap (a2)))) t238 t239 t240 bt241.1 bt241.2.1 bt241.2.2.1 bt241.2.2.2.1 bt241.2.2.2.2).bind fun t253 => (if t253 = true then (some (decide ((t250.length : Int) > 0))) else (some false))))) else (none)) = some r := H
        have A8 := Aside0.mk A80
        clear A80
        by_cases c9 : 0 ≤ a2
        · rw [if_pos c9] at H
          have c9b0 := eq_true c9
          have c9b1 : decide (0 ≤ a2) = true := decide_eq_true c9
          clear c9
          obtain ⟨ji10, hji10⟩ : ∃ j_ : Int, (shl .u64 a1 a2) = j_ := ⟨_, rfl⟩
          replace H : ((impl_ProofNodes.f kj3 a0 (IntKind.u64.wrap (a2)) (ji10)).bind fun bt241 => ((laws_raised.f kj3 t234 a2).bind fun t250 => ((spec_SameProof.f kj3 t250 (IntKind.u64.wrap (t237 + (IntKind.u64.wrap (a2)))) t238 t239 t240 bt241.1 bt241.2.1 bt241.2.2.1 bt241.2.2.2.1 bt241.2.2.2.2).bind fun t253 => (if t253 = true then (some (decide ((t250.length : Int) > 0))) else (some false))))) = some r := by first | (rw [hji10] at H; exact H) | (simp only [hji10] at H ⊢; exact H)
          (try rw [hji10] at A8)
          have hji10_ : (IntKind.u64.wrap (a1 * 2 ^ min a2.toNat 64)) = ji10 := hji10
          have hji10z : a2 ≤ 64 → (IntKind.u64.wrap (a1 * 2 ^ a2.toNat)) = ji10 := shl_small hji10
          replace H := Option.bind_eq_some_iff.mp H
          obtain ⟨⟨t241, t244, t245, t246, t247⟩, A110, H⟩ := H
          replace H : ((laws_raised.f kj3 t234 a2).bind fun t250 => ((spec_SameProof.f kj3 t250 (IntKind.u64.wrap (t237 + (IntKind.u64.wrap (a2)))) t238 t239 t240 t241 t244 t245 t246 t247).bind fun t253 => (if t253 = true then (some (decide ((t250.length : Int) > 0))) else (some false)))) = some r := H
          have A11 := Aside0.mk A110
          clear A110
          replace H := Option.bind_eq_some_iff.mp H
          obtain ⟨t250, A120, H⟩ := H
          replace H : ((spec_SameProof.f kj3 t250 (IntKind.u64.wrap (t237 + (IntKind.u64.wrap (a2)))) t238 t239 t240 t241 t244 t245 t246 t247).bind fun t253 => (if t253 = true then (some (decide ((t250.length : Int) > 0))) else (some false))) = some r := H
          have A12 := Aside0.mk A120
          clear A120
          replace H := Option.bind_eq_some_iff.mp H
          obtain ⟨t253, A130, H⟩ := H
          replace H : (if t253 = true then (some (decide ((t250.length : Int) > 0))) else (some false)) = some r := H
          have A13 := Aside0.mk A130
          clear A130
          by_cases c14 : t253 = true
          · subst c14
            have H1 : (some (decide ((t250.length : Int) > 0))) = some r := by rw [if_pos rfl] at H; exact H
            clear H
            have H := H1
            clear H1
            obtain rfl := Option.some.inj H
            try go_wp2
            have n0_ := Aside0.mk (below_drew1 HB.out)
            clear HB
            have HB := n0_
            clear n0_
            refine start_ (n := 14) (S := fun w' => True) (ds := []) #[false, false, false, false, false, false, false, false, false, false, false, false, false, false] (by kernel_rfl) rfl rfl trivial (fun hHeld => ?_); refine with_tabW laws_FnProofNodesScaled.tab3 laws_FnProofNodesScaled.bits3 (fun HT_ HW_ => ?_)
            generalize wc.drew = w15 at HB hHeld ⊢
            refine pure_ (i := 0) (N := some 18) (v := ?_) (a' := ?_) #[true, false, false, false, false, false, false, false, false, false, false, false, false, false] rfl rfl (any_of HT_.out (by kernel_rfl)) (fun _ _ _ h => h) (Or.inl ⟨by rfl, ?_⟩) ?_ ?_
            rotate_left
            · intro w'
              go_simp
              with_reducible rfl
            rotate_left
            · simp only [Act.put, List.setIfInBounds_toArray, List.set_cons_zero, List.set_cons_succ, i64_w, i32_w]
              rfl
            refine pure_ (i := 1) (N := some 19) (v := ?_) (a' := ?_) #[true, true, false, false, false, false, false, false, false, false, false, false, false, false] rfl rfl (any_of HT_.out (by kernel_rfl)) (fun _ _ _ h => h) (Or.inl ⟨by rfl, ?_⟩) ?_ ?_
            rotate_left
            · intro w'
              go_simp
              with_reducible rfl
            rotate_left
            · simp only [Act.put, List.setIfInBounds_toArray, List.set_cons_zero, List.set_cons_succ, i64_w, i32_w]
              rfl
            refine pure_ (i := 3) (N := some 21) (v := ?_) (a' := ?_) #[true, true, false, true, false, false, false, false, false, false, false, false, false, false] rfl rfl (any_of HT_.out (by kernel_rfl)) (fun _ _ _ h => h) (Or.inl ⟨by rfl, ?_⟩) ?_ ?_
            rotate_left
            · intro w'
              go_simp
              with_reducible rfl
            rotate_left
            · simp only [Act.put, List.setIfInBounds_toArray, List.set_cons_zero, List.set_cons_succ, i64_w, i32_w]
              rfl
            refine pure_ (i := 4) (N := some 22) (v := ?_) (a' := ?_) #[true, true, false, true, true, false, false, false, false, false, false, false, false, false] rfl rfl (any_of HT_.out (by kernel_rfl)) (fun _ _ _ h => h) (Or.inl ⟨by rfl, ?_⟩) ?_ ?_
            rotate_left
            · intro w'
              go_simp
              with_reducible rfl
            rotate_left
            · simp only [Act.put, List.setIfInBounds_toArray, List.set_cons_zero, List.set_cons_succ, i64_w, i32_w]
              rfl
            refine pure_ (i := 5) (N := some 23) (v := ?_) (a' := ?_) #[true, true, false, true, true, true, false, false, false, false, false, false, false, false] rfl rfl (any_of HT_.out (by kernel_rfl)) (fun _ _ _ h => h) (Or.inl ⟨by rfl, ?_⟩) ?_ ?_
            rotate_left
            · intro w'
              go_simp
              with_reducible rfl
            rotate_left
            · simp only [Act.put, List.setIfInBounds_toArray, List.set_cons_zero, List.set_cons_succ, i64_w, i32_w]
              rfl
            refine pure_ (i := 6) (N := some 24) (v := ?_) (a' := ?_) #[true, true, false, true, true, true, true, false, false, false, false, false, false, false] rfl rfl (any_of HT_.out (by kernel_rfl)) (fun _ _ _ h => h) (Or.inl ⟨by rfl, ?_⟩) ?_ ?_
            rotate_left
            · intro w'
              go_simp
              with_reducible rfl
            rotate_left
            · simp only [Act.put, List.setIfInBounds_toArray, List.set_cons_zero, List.set_cons_succ, i64_w, i32_w]
              rfl
            refine pure_ (i := 7) (N := some 25) (v := ?_) (a' := ?_) #[true, true, false, true, true, true, true, true, false, false, false, false, false, false] rfl rfl (any_of HT_.out (by kernel_rfl)) (fun _ _ _ h => h) (Or.inl ⟨by rfl, ?_⟩) ?_ ?_
            rotate_left
            · intro w'
              go_simp
              with_reducible rfl
            rotate_left
            · simp only [Act.put, List.setIfInBounds_toArray, List.set_cons_zero, List.set_cons_succ, i64_w, i32_w]
              rfl
            refine pure_ (i := 8) (N := some 26) (v := ?_) (a' := ?_) #[true, true, false, true, true, true, true, true, true, false, false, false, false, false] rfl rfl (any_of HT_.out (by kernel_rfl)) (fun _ _ _ h => h) (Or.inl ⟨by rfl, ?_⟩) ?_ ?_
            rotate_left
            · intro w'
              go_simp
              with_reducible rfl
            rotate_left
            · simp only [Act.put, List.setIfInBounds_toArray, List.set_cons_zero, List.set_cons_succ, i64_w, i32_w]
              rfl
            refine join_ (σ := Value × Value × Nat × Nat) 2 #[true, true, true, true, true, true, true, true, true, true, true, true, false, false] (fun s_ => [(20, .agg #[s_.1, .int .u64 t237, .int .u64 t238, .int .i64 t239, .int .i64 t240]), (27, .agg #[s_.2.1, .int .u64 t244, .int .u64 t245, .int .i64 t246, .int .i64 t247]), (7, .pointer (some ⟨s_.2.2.1, 0, none⟩)), (8, .pointer (some ⟨s_.2.2.2, 0, none⟩))]) (fun s_ w' => (Kd.R k27 27 w' w.heap.size (fun k_ => some k_ ≠ (s_.2.1 : Value).ownBlock) s_.1 t234) ∧ (Kd.R k27 27 w' w.heap.size (fun k_ => some k_ ≠ (s_.1 : Value).ownBlock) s_.2.1 t241) ∧ (w'.heap[s_.2.2.1]? = some (.cells #[.slice none 0 0, .int .u64 0, .int .u64 0, .int .i64 0, .int .i64 0] 36 (0, 0))) ∧ (w'.heap[s_.2.2.2]? = some (.cells #[.slice none 0 0, .int .u64 0, .int .u64 0, .int .i64 0, .int .i64 0] 36 (0, 0))) ∧ (w.heap.size ≤ s_.2.2.1) ∧ (w.heap.size ≤ s_.2.2.1) ∧ (s_.2.2.2 ≠ s_.2.2.1) ∧ (s_.2.2.1 ≠ s_.2.2.2) ∧ (w.heap.size ≤ s_.2.2.2) ∧ (w.heap.size ≤ s_.2.2.2) ∧ (Below w.heap.size w w')) ?_ ?_
            rotate_left
            · intro hJ2_9_10_11
              refine join_ (σ := Value × Value × Nat) 3 #[true, true, true, true, true, true, true, true, true, true, true, false, false, false] (fun s_ => [(20, .agg #[s_.1, .int .u64 t237, .int .u64 t238, .int .i64 t239, .int .i64 t240]), (27, .agg #[s_.2.1, .int .u64 t244, .int .u64 t245, .int .i64 t246, .int .i64 t247]), (7, .pointer (some ⟨s_.2.2, 0, none⟩))]) (fun s_ w' => (Kd.R k27 27 w' w.heap.size (fun k_ => some k_ ≠ (s_.2.1 : Value).ownBlock) s_.1 t234) ∧ (Kd.R k27 27 w' w.heap.size (fun k_ => some k_ ≠ (s_.1 : Value).ownBlock) s_.2.1 t241) ∧ (w'.heap[s_.2.2]? = some (.cells #[.slice none 0 0, .int .u64 0, .int .u64 0, .int .i64 0, .int .i64 0] 36 (0, 0))) ∧ (w.heap.size ≤ s_.2.2) ∧ (w.heap.size ≤ s_.2.2) ∧ (Below w.heap.size w w')) ?_ ?_
              rotate_left
              · intro hJ2_9_10
                refine join_ (σ := Value × Value × Nat) 3 #[true, true, true, true, true, true, true, true, true, true, false, true, false, false] (fun s_ => [(20, .agg #[s_.1, .int .u64 t237, .int .u64 t238, .int .i64 t239, .int .i64 t240]), (27, .agg #[s_.2.1, .int .u64 t244, .int .u64 t245, .int .i64 t246, .int .i64 t247]), (8, .pointer (some ⟨s_.2.2, 0, none⟩))]) (fun s_ w' => (Kd.R k27 27 w' w.heap.size (fun k_ => some k_ ≠ (s_.2.1 : Value).ownBlock) s_.1 t234) ∧ (Kd.R k27 27 w' w.heap.size (fun k_ => some k_ ≠ (s_.1 : Value).ownBlock) s_.2.1 t241) ∧ (w'.heap[s_.2.2]? = some (.cells #[.slice none 0 0, .int .u64 0, .int .u64 0, .int .i64 0, .int .i64 0] 36 (0, 0))) ∧ (w.heap.size ≤ s_.2.2) ∧ (w.heap.size ≤ s_.2.2) ∧ (Below w.heap.size w w')) ?_ ?_
                rotate_left
                · intro hJ2_9_11
                  refine join_ (σ := Value × Nat × Nat) 3 #[true, true, true, true, true, true, true, true, true, false, true, true, false, false] (fun s_ => [(20, .agg #[s_.1, .int .u64 t237, .int .u64 t238, .int .i64 t239, .int .i64 t240]), (7, .pointer (some ⟨s_.2.1, 0, none⟩)), (8, .pointer (some ⟨s_.2.2, 0, none⟩))]) (fun s_ w' => (Kd.R k27 27 w' w.heap.size (fun _ => True) s_.1 t234) ∧ (w'.heap[s_.2.1]? = some (.cells #[.slice none 0 0, .int .u64 0, .int .u64 0, .int .i64 0, .int .i64 0] 36 (0, 0))) ∧ (w'.heap[s_.2.2]? = some (.cells #[.slice none 0 0, .int .u64 0, .int .u64 0, .int .i64 0, .int .i64 0] 36 (0, 0))) ∧ (w.heap.size ≤ s_.2.1) ∧ (w.heap.size ≤ s_.2.1) ∧ (s_.2.2 ≠ s_.2.1) ∧ (s_.2.1 ≠ s_.2.2) ∧ (w.heap.size ≤ s_.2.2) ∧ (w.heap.size ≤ s_.2.2) ∧ (Below w.heap.size w w')) ?_ ?_
                  rotate_left
                  · intro hJ2_10_11
                    refine join_ (σ := Value × Value) 4 #[true, true, true, true, true, true, true, true, true, true, false, false, false, false] (fun s_ => [(20, .agg #[s_.1, .int .u64 t237, .int .u64 t238, .int .i64 t239, .int .i64 t240]), (27, .agg #[s_.2, .int .u64 t244, .int .u64 t245, .int .i64 t246, .int .i64 t247])]) (fun s_ w' => (Kd.R k27 27 w' w.heap.size (fun k_ => some k_ ≠ (s_.2 : Value).ownBlock) s_.1 t234) ∧ (Kd.R k27 27 w' w.heap.size (fun k_ => some k_ ≠ (s_.1 : Value).ownBlock) s_.2 t241) ∧ (Below w.heap.size w w')) ?_ ?_
                    rotate_left
                    · intro hJ2_9
                      refine join_ (σ := Value × Nat) 4 #[true, true, true, true, true, true, true, true, true, false, true, false, false, false] (fun s_ => [(20, .agg #[s_.1, .int .u64 t237, .int .u64 t238, .int .i64 t239, .int .i64 t240]), (7, .pointer (some ⟨s_.2, 0, none⟩))]) (fun s_ w' => (Kd.R k27 27 w' w.heap.size (fun _ => True) s_.1 t234) ∧ (w'.heap[s_.2]? = some (.cells #[.slice none 0 0, .int .u64 0, .int .u64 0, .int .i64 0, .int .i64 0] 36 (0, 0))) ∧ (w.heap.size ≤ s_.2) ∧ (w.heap.size ≤ s_.2) ∧ (Below w.heap.size w w')) ?_ ?_
                      rotate_left
                      · intro hJ2_10
                        refine join_ (σ := Value × Nat) 4 #[true, true, true, true, true, true, true, true, true, false, false, true, false, false] (fun s_ => [(20, .agg #[s_.1, .int .u64 t237, .int .u64 t238, .int .i64 t239, .int .i64 t240]), (8, .pointer (some ⟨s_.2, 0, none⟩))]) (fun s_ w' => (Kd.R k27 27 w' w.heap.size (fun _ => True) s_.1 t234) ∧ (w'.heap[s_.2]? = some (.cells #[.slice none 0 0, .int .u64 0, .int .u64 0, .int .i64 0, .int .i64 0] 36 (0, 0))) ∧ (w.heap.size ≤ s_.2) ∧ (w.heap.size ≤ s_.2) ∧ (Below w.heap.size w w')) ?_ ?_
                        rotate_left
                        · intro hJ2_11
                          refine join_ (σ := Nat × Nat) 4 #[true, true, false, true, true, true, true, true, true, false, true, true, false, false] (fun s_ => [(7, .pointer (some ⟨s_.1, 0, none⟩)), (8, .pointer (some ⟨s_.2, 0, none⟩))]) (fun s_ w' => (w'.heap[s_.1]? = some (.cells #[.slice none 0 0, .int .u64 0, .int .u64 0, .int .i64 0, .int .i64 0] 36 (0, 0))) ∧ (w'.heap[s_.2]? = some (.cells #[.slice none 0 0, .int .u64 0, .int .u64 0, .int .i64 0, .int .i64 0] 36 (0, 0))) ∧ (w.heap.size ≤ s_.1) ∧ (w.heap.size ≤ s_.1) ∧ (s_.2 ≠ s_.1) ∧ (s_.1 ≠ s_.2) ∧ (w.heap.size ≤ s_.2) ∧ (w.heap.size ≤ s_.2) ∧ (Below w.heap.size w w')) ?_ ?_
                          rotate_left
                          · intro hJ10_11
                            refine join_ (σ := Value) 5 #[true, true, true, true, true, true, true, true, true, false, false, false, false, false] (fun s_ => [(20, .agg #[s_, .int .u64 t237, .int .u64 t238, .int .i64 t239, .int .i64 t240])]) (fun s_ w' => (Kd.R k27 27 w' w.heap.size (fun _ => True) s_ t234) ∧ (Below w.heap.size w w')) ?_ ?_
                            rotate_left
                            · intro hJ2
                              refine join_ (σ := Nat) 5 #[true, true, false, true, true, true, true, true, true, false, true, false, false, false] (fun s_ => [(7, .pointer (some ⟨s_, 0, none⟩))]) (fun s_ w' => (w'.heap[s_]? = some (.cells #[.slice none 0 0, .int .u64 0, .int .u64 0, .int .i64 0, .int .i64 0] 36 (0, 0))) ∧ (w.heap.size ≤ s_) ∧ (w.heap.size ≤ s_) ∧ (Below w.heap.size w w')) ?_ ?_
                              rotate_left
                              · intro hJ10
                                refine join_ (σ := Nat) 5 #[true, true, false, true, true, true, true, true, true, false, false, true, false, false] (fun s_ => [(8, .pointer (some ⟨s_, 0, none⟩))]) (fun s_ w' => (w'.heap[s_]? = some (.cells #[.slice none 0 0, .int .u64 0, .int .u64 0, .int .i64 0, .int .i64 0] 36 (0, 0))) ∧ (w.heap.size ≤ s_) ∧ (w.heap.size ≤ s_) ∧ (Below w.heap.size w w')) ?_ ?_
                                rotate_left
                                · intro hJ11
                                  refine three_ (i := 2) (j := 10) (k := 11) (Ni := some 20) (Nj := some 7) (Nk := some 8) #[true, true, true, true, true, true, true, true, true, false, false, false, false, false] #[true, true, false, true, true, true, true, true, true, false, true, false, false, false] #[true, true, false, true, true, true, true, true, true, false, false, true, false, false] rfl rfl rfl rfl rfl rfl (three_of HT_.out (by kernel_rfl)) (by decide) (by decide) (by decide) (fun K hK => ?_) (fun K hK => ?_) (fun K hK => ?_)
                                  · skip
                                    refine goes_ Tryd.func12 (by kernel_rfl) rfl #[.int .u64 a0, .int .u64 0, .int .u64 a1] (by rfl) rfl rfl (by (try simp only [List.map_toArray, List.map_cons, List.map_nil]); first | done | rfl | (simp only [List.length_drop, List.length_take]; rfl)) ?_
                                    with_reducible refine (impl_ProofNodes.calls kj3 a0 0 a1 t234 t237 t238 t239 t240 _ ?side1 A8.out).mono ?_
                                    (case side1 => first | exact HG.out | exact Glob.drewN HG.out _ | exact Glob.below HG.out (by repeat (first | (with_reducible first | exact HB.out | apply below_alloc | apply pw_below_drewN | apply below_drew1) | exact HB.out)))
                                    rintro e w16 ⟨v235, rfl, ho0, hb⟩
                                    refine ⟨_, rfl, ?_⟩
                                    have n0_ := Aside0.mk (Kd.R_lower ho0 (below_size (by repeat (first | (with_reducible first | exact HB.out | apply below_alloc | apply pw_below_drewN | apply below_drew1) | exact HB.out))))
                                    have n1_ := Aside0.mk (below_step (by repeat (first | (with_reducible first | exact HB.out | apply below_alloc | apply pw_below_drewN | apply below_drew1) | exact HB.out)) hb)
                                    clear HB
                                    have HO236 := n0_
                                    have HB := n1_
                                    clear n0_ n1_
                                    (try clear hb)
                                    (try clear hb2)
                                    (try clear hk)
                                    (try clear hi)
                                    (try clear ho0)
                                    refine hK.out _ _ trivial (fun hHeld => ?_)
                                    clear hK K
                                    refine norm_ (a' := ?_) ?_ ?_
                                    rotate_left
                                    · show Act.put _ (some 20) _ = _
                                      simp only [Act.put, List.setIfInBounds_toArray, List.set_cons_zero, List.set_cons_succ, i64_w, i32_w]
                                      rfl
                                    exact norm_ (by first | (simp only [putAll, Act.put, List.setIfInBounds_toArray, List.set_cons_zero, List.set_cons_succ]; done) | (simp only [putAll, Act.put, List.setIfInBounds_toArray, List.set_cons_zero, List.set_cons_succ]; rfl)) (hJ2 (v235) _ ⟨(by (with_reducible repeat (first | apply Kd.R_alloc | apply Kd.R_drewN | apply Kd.R_drew)); exact HO236.out), (by repeat (first | (with_reducible first | exact HB.out | apply below_alloc | apply pw_below_drewN | apply below_drew1) | exact HB.out))⟩)
                                  · skip
                                    refine box_step ?hg (N := 7) ?hd (cs := #[.slice none 0 0, .int .u64 0, .int .u64 0, .int .i64 0, .int .i64 0]) (t := 36) ?hr ?_; (case hd => rfl); (case hg => rfl); (case hr => first | (go_simp; done) | (go_simp; rfl))
                                    intro gb248 hg w16 hbox hb
                                    have n0_ := Aside0.mk (below_step (by repeat (first | (with_reducible first | exact HB.out | apply below_alloc | apply pw_below_drewN | apply below_drew1) | exact HB.out)) hb)
                                    have n1_ := Aside0.mk (hbox)
                                    have n2_ := Aside0.mk ((by rw [hg]; exact (below_size (by repeat (first | (with_reducible first | exact HB.out | apply below_alloc | apply pw_below_drewN | apply below_drew1) | exact HB.out))) : w.heap.size ≤ gb248))
                                    have n3_ := Aside0.mk ((by rw [hg]; exact (below_size (by repeat (first | (with_reducible first | exact HB.out | apply below_alloc | apply pw_below_drewN | apply below_drew1) | exact HB.out))) : w.heap.size ≤ gb248))
                                    clear HB
                                    have HB := n0_
                                    have BK248 := n1_
                                    have GW248 := n2_
                                    have GE248 := n3_
                                    clear n0_ n1_ n2_ n3_
                                    clear hb hbox hg
                                    refine hK.out _ _ trivial (fun hHeld => ?_)
                                    clear hK K
                                    refine norm_ (a' := ?_) ?_ ?_
                                    rotate_left
                                    · show Act.put _ (some 7) _ = _
                                      simp only [Act.put, List.setIfInBounds_toArray, List.set_cons_zero, List.set_cons_succ, i64_w, i32_w]
                                      rfl
                                    exact norm_ (by first | (simp only [putAll, Act.put, List.setIfInBounds_toArray, List.set_cons_zero, List.set_cons_succ]; done) | (simp only [putAll, Act.put, List.setIfInBounds_toArray, List.set_cons_zero, List.set_cons_succ]; rfl)) (hJ10 (gb248) _ ⟨(by (with_reducible repeat (first | refine blk_drewN ?_ _ | refine blk_drew ?_ | refine blk_alloc ?_ _)); exact BK248.out), GW248.out, GE248.out, (by repeat (first | (with_reducible first | exact HB.out | apply below_alloc | apply pw_below_drewN | apply below_drew1 | refine below_set ?_ GE248.out) | exact HB.out))⟩)
                                  · skip
                                    refine box_step ?hg (N := 8) ?hd (cs := #[.slice none 0 0, .int .u64 0, .int .u64 0, .int .i64 0, .int .i64 0]) (t := 36) ?hr ?_; (case hd => rfl); (case hg => rfl); (case hr => first | (go_simp; done) | (go_simp; rfl))
                                    intro gb249 hg w16 hbox hb
                                    have n0_ := Aside0.mk (below_step (by repeat (first | (with_reducible first | exact HB.out | apply below_alloc | apply pw_below_drewN | apply below_drew1) | exact HB.out)) hb)
                                    have n1_ := Aside0.mk (hbox)
                                    have n2_ := Aside0.mk ((by rw [hg]; exact (below_size (by repeat (first | (with_reducible first | exact HB.out | apply below_alloc | apply pw_below_drewN | apply below_drew1) | exact HB.out))) : w.heap.size ≤ gb249))
                                    have n3_ := Aside0.mk ((by rw [hg]; exact (below_size (by repeat (first | (with_reducible first | exact HB.out | apply below_alloc | apply pw_below_drewN | apply below_drew1) | exact HB.out))) : w.heap.size ≤ gb249))
                                    clear HB
                                    have HB := n0_
                                    have BK249 := n1_
                                    have GW249 := n2_
                                    have GE249 := n3_
                                    clear n0_ n1_ n2_ n3_
                                    clear hb hbox hg
                                    refine hK.out _ _ trivial (fun hHeld => ?_)
                                    clear hK K
                                    refine norm_ (a' := ?_) ?_ ?_
                                    rotate_left
                                    · show Act.put _ (some 8) _ = _
                                      simp only [Act.put, List.setIfInBounds_toArray, List.set_cons_zero, List.set_cons_succ, i64_w, i32_w]
                                      rfl
                                    exact norm_ (by first | (simp only [putAll, Act.put, List.setIfInBounds_toArray, List.set_cons_zero, List.set_cons_succ]; done) | (simp only [putAll, Act.put, List.setIfInBounds_toArray, List.set_cons_zero, List.set_cons_succ]; rfl)) (hJ11 (gb249) _ ⟨(by (with_reducible repeat (first | refine blk_drewN ?_ _ | refine blk_drew ?_ | refine blk_alloc ?_ _)); exact BK249.out), GW249.out, GE249.out, (by repeat (first | (with_reducible first | exact HB.out | apply below_alloc | apply pw_below_drewN | apply below_drew1 | refine below_set ?_ GE249.out) | exact HB.out))⟩)
                                · skip
                                  rintro gb249 w17 ⟨h0_, h1_, h2_, h3_⟩
                                  have n0_ : Aside0 (w17.heap[gb249]? = some (.cells #[.slice none 0 0, .int .u64 0, .int .u64 0, .int .i64 0, .int .i64 0] 36 (0, 0))) := ⟨h0_⟩
                                  have n1_ : Aside0 (w.heap.size ≤ gb249) := ⟨h1_⟩
                                  have n2_ : Aside0 (w.heap.size ≤ gb249) := ⟨h2_⟩
                                  have n3_ : Aside0 (Below w.heap.size w w17) := ⟨h3_⟩
                                  clear HB
                                  clear h0_ h1_ h2_ h3_
                                  have BK249 := n0_
                                  have GW249 := n1_
                                  have GE249 := n2_
                                  have HB := n3_
                                  clear n0_ n1_ n2_ n3_
                                  have hHeld := trivial
                                  refine norm_ (a' := ?_) ?_ ?_
                                  rotate_left
                                  · simp only [putAll, Act.put, List.setIfInBounds_toArray, List.set_cons_zero, List.set_cons_succ]
                                    rfl
                                  refine two_ (i := 2) (j := 10) (Ni := some 20) (Nj := some 7) #[true, true, true, true, true, true, true, true, true, false, false, true, false, false] #[true, true, false, true, true, true, true, true, true, false, true, true, false, false] rfl rfl rfl rfl (two_of HT_.out (by kernel_rfl)) (by decide) (by decide) (fun K hK => ?_) (fun K hK => ?_)
                                  · skip
                                    refine goes_ Tryd.func12 (by kernel_rfl) rfl #[.int .u64 a0, .int .u64 0, .int .u64 a1] (by rfl) rfl rfl (by (try simp only [List.map_toArray, List.map_cons, List.map_nil]); first | done | rfl | (simp only [List.length_drop, List.length_take]; rfl)) ?_
                                    with_reducible refine (impl_ProofNodes.calls kj3 a0 0 a1 t234 t237 t238 t239 t240 _ ?side1 A8.out).mono ?_
                                    (case side1 => first | exact HG.out | exact Glob.drewN HG.out _ | exact Glob.below HG.out (by repeat (first | (with_reducible first | exact HB.out | apply below_alloc | apply pw_below_drewN | apply below_drew1 | refine below_set ?_ GE249.out) | exact HB.out)))
                                    rintro e w18 ⟨v235, rfl, ho0, hb⟩
                                    refine ⟨_, rfl, ?_⟩
                                    have n0_ := Aside0.mk (Kd.R_lower ho0 (below_size (by repeat (first | (with_reducible first | exact HB.out | apply below_alloc | apply pw_below_drewN | apply below_drew1 | refine below_set ?_ GE249.out) | exact HB.out))))
                                    have n1_ := Aside0.mk (blk_below (g := gb249) (o := .cells #[.slice none 0 0, .int .u64 0, .int .u64 0, .int .i64 0, .int .i64 0] 36 (0, 0)) (by (with_reducible repeat (first | refine blk_drewN ?_ _ | refine blk_drew ?_ | refine blk_alloc ?_ _)); exact BK249.out) hb)
                                    have n2_ := Aside0.mk (below_step (by repeat (first | (with_reducible first | exact HB.out | apply below_alloc | apply pw_below_drewN | apply below_drew1 | refine below_set ?_ GE249.out) | exact HB.out)) hb)
                                    clear BK249
                                    clear HB
                                    have HO236 := n0_
                                    have BK249 := n1_
                                    have HB := n2_
                                    clear n0_ n1_ n2_
                                    (try clear hb)
                                    (try clear hb2)
                                    (try clear hk)
                                    (try clear hi)
                                    (try clear ho0)
                                    refine hK.out _ _ trivial (fun hHeld => ?_)
                                    clear hK K
                                    refine norm_ (a' := ?_) ?_ ?_
                                    rotate_left
                                    · show Act.put _ (some 20) _ = _
                                      simp only [Act.put, List.setIfInBounds_toArray, List.set_cons_zero, List.set_cons_succ, i64_w, i32_w]
                                      rfl
                                    exact norm_ (by first | (simp only [putAll, Act.put, List.setIfInBounds_toArray, List.set_cons_zero, List.set_cons_succ]; done) | (simp only [putAll, Act.put, List.setIfInBounds_toArray, List.set_cons_zero, List.set_cons_succ]; rfl)) (hJ2_11 (v235, gb249) _ ⟨(by (with_reducible repeat (first | apply Kd.R_alloc | apply Kd.R_drewN | apply Kd.R_drew)); exact HO236.out), (by (with_reducible repeat (first | refine blk_drewN ?_ _ | refine blk_drew ?_ | refine blk_alloc ?_ _)); exact BK249.out), GW249.out, GE249.out, (by repeat (first | (with_reducible first | exact HB.out | apply below_alloc | apply pw_below_drewN | apply below_drew1 | refine below_set ?_ GE249.out) | exact HB.out))⟩)
                                  · skip
                                    refine box_step ?hg (N := 7) ?hd (cs := #[.slice none 0 0, .int .u64 0, .int .u64 0, .int .i64 0, .int .i64 0]) (t := 36) ?hr ?_; (case hd => rfl); (case hg => rfl); (case hr => first | (go_simp; done) | (go_simp; rfl))
                                    intro gb248 hg w18 hbox hb
                                    have n0_ := Aside0.mk (blk_below (g := gb249) (o := .cells #[.slice none 0 0, .int .u64 0, .int .u64 0, .int .i64 0, .int .i64 0] 36 (0, 0)) (by (with_reducible repeat (first | refine blk_drewN ?_ _ | refine blk_drew ?_ | refine blk_alloc ?_ _)); exact BK249.out) hb)
                                    have n1_ := Aside0.mk (below_step (by repeat (first | (with_reducible first | exact HB.out | apply below_alloc | apply pw_below_drewN | apply below_drew1 | refine below_set ?_ GE249.out) | exact HB.out)) hb)
                                    have n2_ := Aside0.mk (hbox)
                                    have n3_ := Aside0.mk ((by rw [hg]; exact (below_size (by repeat (first | (with_reducible first | exact HB.out | apply below_alloc | apply pw_below_drewN | apply below_drew1 | refine below_set ?_ GE249.out) | exact HB.out))) : w.heap.size ≤ gb248))
                                    have n4_ := Aside0.mk ((by rw [hg]; exact (below_size (by repeat (first | (with_reducible first | exact HB.out | apply below_alloc | apply pw_below_drewN | apply below_drew1 | refine below_set ?_ GE249.out) | exact HB.out))) : w.heap.size ≤ gb248))
                                    have n5_ := Aside0.mk ((by rw [hg]; exact Nat.ne_of_lt (blk_lt (g := gb249) (o := .cells #[.slice none 0 0, .int .u64 0, .int .u64 0, .int .i64 0, .int .i64 0] 36 (0, 0)) (by (with_reducible repeat (first | refine blk_drewN ?_ _ | refine blk_drew ?_ | refine blk_alloc ?_ _)); exact BK249.out)) : gb249 ≠ gb248))
                                    have n6_ := Aside0.mk ((by rw [hg]; exact Nat.ne_of_gt (blk_lt (g := gb249) (o := .cells #[.slice none 0 0, .int .u64 0, .int .u64 0, .int .i64 0, .int .i64 0] 36 (0, 0)) (by (with_reducible repeat (first | refine blk_drewN ?_ _ | refine blk_drew ?_ | refine blk_alloc ?_ _)); exact BK249.out)) : gb248 ≠ gb249))
                                    clear BK249
                                    clear HB
                                    have BK249 := n0_
                                    have HB := n1_
                                    have BK248 := n2_
                                    have GW248 := n3_
                                    have GE248 := n4_
                                    have NB249_248 := n5_
                                    have NB248_249 := n6_
                                    clear n0_ n1_ n2_ n3_ n4_ n5_ n6_
                                    clear hb hbox hg
                                    refine hK.out _ _ trivial (fun hHeld => ?_)
                                    clear hK K
                                    refine norm_ (a' := ?_) ?_ ?_
                                    rotate_left
                                    · show Act.put _ (some 7) _ = _
                                      simp only [Act.put, List.setIfInBounds_toArray, List.set_cons_zero, List.set_cons_succ, i64_w, i32_w]
                                      rfl
                                    exact norm_ (by first | (simp only [putAll, Act.put, List.setIfInBounds_toArray, List.set_cons_zero, List.set_cons_succ]; done) | (simp only [putAll, Act.put, List.setIfInBounds_toArray, List.set_cons_zero, List.set_cons_succ]; rfl)) (hJ10_11 (gb248, gb249) _ ⟨(by (with_reducible repeat (first | refine blk_drewN ?_ _ | refine blk_drew ?_ | refine blk_alloc ?_ _)); exact BK248.out), (by (with_reducible repeat (first | refine blk_drewN ?_ _ | refine blk_drew ?_ | refine blk_alloc ?_ _)); exact BK249.out), GW248.out, GE248.out, NB249_248.out, NB248_249.out, GW249.out, GE249.out, (by repeat (first | (with_reducible first | exact HB.out | apply below_alloc | apply pw_below_drewN | apply below_drew1 | refine below_set ?_ GE249.out | refine below_set ?_ GE248.out) | exact HB.out))⟩)
                              · skip
                                rintro gb248 w17 ⟨h0_, h1_, h2_, h3_⟩
                                have n0_ : Aside0 (w17.heap[gb248]? = some (.cells #[.slice none 0 0, .int .u64 0, .int .u64 0, .int .i64 0, .int .i64 0] 36 (0, 0))) := ⟨h0_⟩
                                have n1_ : Aside0 (w.heap.size ≤ gb248) := ⟨h1_⟩
                                have n2_ : Aside0 (w.heap.size ≤ gb248) := ⟨h2_⟩
                                have n3_ : Aside0 (Below w.heap.size w w17) := ⟨h3_⟩
                                clear HB
                                clear h0_ h1_ h2_ h3_
                                have BK248 := n0_
                                have GW248 := n1_
                                have GE248 := n2_
                                have HB := n3_
                                clear n0_ n1_ n2_ n3_
                                have hHeld := trivial
                                refine norm_ (a' := ?_) ?_ ?_
                                rotate_left
                                · simp only [putAll, Act.put, List.setIfInBounds_toArray, List.set_cons_zero, List.set_cons_succ]
                                  rfl
                                refine two_ (i := 2) (j := 11) (Ni := some 20) (Nj := some 8) #[true, true, true, true, true, true, true, true, true, false, true, false, false, false] #[true, true, false, true, true, true, true, true, true, false, true, true, false, false] rfl rfl rfl rfl (two_of HT_.out (by kernel_rfl)) (by decide) (by decide) (fun K hK => ?_) (fun K hK => ?_)
                                · skip
                                  refine goes_ Tryd.func12 (by kernel_rfl) rfl #[.int .u64 a0, .int .u64 0, .int .u64 a1] (by rfl) rfl rfl (by (try simp only [List.map_toArray, List.map_cons, List.map_nil]); first | done | rfl | (simp only [List.length_drop, List.length_take]; rfl)) ?_
                                  with_reducible refine (impl_ProofNodes.calls kj3 a0 0 a1 t234 t237 t238 t239 t240 _ ?side1 A8.out).mono ?_
                                  (case side1 => first | exact HG.out | exact Glob.drewN HG.out _ | exact Glob.below HG.out (by repeat (first | (with_reducible first | exact HB.out | apply below_alloc | apply pw_below_drewN | apply below_drew1 | refine below_set ?_ GE248.out) | exact HB.out)))
                                  rintro e w18 ⟨v235, rfl, ho0, hb⟩
                                  refine ⟨_, rfl, ?_⟩
                                  have n0_ := Aside0.mk (Kd.R_lower ho0 (below_size (by repeat (first | (with_reducible first | exact HB.out | apply below_alloc | apply pw_below_drewN | apply below_drew1 | refine below_set ?_ GE248.out) | exact HB.out))))
                                  have n1_ := Aside0.mk (blk_below (g := gb248) (o := .cells #[.slice none 0 0, .int .u64 0, .int .u64 0, .int .i64 0, .int .i64 0] 36 (0, 0)) (by (with_reducible repeat (first | refine blk_drewN ?_ _ | refine blk_drew ?_ | refine blk_alloc ?_ _)); exact BK248.out) hb)
                                  have n2_ := Aside0.mk (below_step (by repeat (first | (with_reducible first | exact HB.out | apply below_alloc | apply pw_below_drewN | apply below_drew1 | refine below_set ?_ GE248.out) | exact HB.out)) hb)
                                  clear BK248
                                  clear HB
                                  have HO236 := n0_
                                  have BK248 := n1_
                                  have HB := n2_
                                  clear n0_ n1_ n2_
                                  (try clear hb)
                                  (try clear hb2)
                                  (try clear hk)
                                  (try clear hi)
                                  (try clear ho0)
                                  refine hK.out _ _ trivial (fun hHeld => ?_)
                                  clear hK K
                                  refine norm_ (a' := ?_) ?_ ?_
                                  rotate_left
                                  · show Act.put _ (some 20) _ = _
                                    simp only [Act.put, List.setIfInBounds_toArray, List.set_cons_zero, List.set_cons_succ, i64_w, i32_w]
                                    rfl
                                  exact norm_ (by first | (simp only [putAll, Act.put, List.setIfInBounds_toArray, List.set_cons_zero, List.set_cons_succ]; done) | (simp only [putAll, Act.put, List.setIfInBounds_toArray, List.set_cons_zero, List.set_cons_succ]; rfl)) (hJ2_10 (v235, gb248) _ ⟨(by (with_reducible repeat (first | apply Kd.R_alloc | apply Kd.R_drewN | apply Kd.R_drew)); exact HO236.out), (by (with_reducible repeat (first | refine blk_drewN ?_ _ | refine blk_drew ?_ | refine blk_alloc ?_ _)); exact BK248.out), GW248.out, GE248.out, (by repeat (first | (with_reducible first | exact HB.out | apply below_alloc | apply pw_below_drewN | apply below_drew1 | refine below_set ?_ GE248.out) | exact HB.out))⟩)
                                · skip
                                  refine box_step ?hg (N := 8) ?hd (cs := #[.slice none 0 0, .int .u64 0, .int .u64 0, .int .i64 0, .int .i64 0]) (t := 36) ?hr ?_; (case hd => rfl); (case hg => rfl); (case hr => first | (go_simp; done) | (go_simp; rfl))
                                  intro gb249 hg w18 hbox hb
                                  have n0_ := Aside0.mk (blk_below (g := gb248) (o := .cells #[.slice none 0 0, .int .u64 0, .int .u64 0, .int .i64 0, .int .i64 0] 36 (0, 0)) (by (with_reducible repeat (first | refine blk_drewN ?_ _ | refine blk_drew ?_ | refine blk_alloc ?_ _)); exact BK248.out) hb)
                                  have n1_ := Aside0.mk (below_step (by repeat (first | (with_reducible first | exact HB.out | apply below_alloc | apply pw_below_drewN | apply below_drew1 | refine below_set ?_ GE248.out) | exact HB.out)) hb)
                                  have n2_ := Aside0.mk (hbox)
                                  have n3_ := Aside0.mk ((by rw [hg]; exact (below_size (by repeat (first | (with_reducible first | exact HB.out | apply below_alloc | apply pw_below_drewN | apply below_drew1 | refine below_set ?_ GE248.out) | exact HB.out))) : w.heap.size ≤ gb249))
                                  have n4_ := Aside0.mk ((by rw [hg]; exact (below_size (by repeat (first | (with_reducible first | exact HB.out | apply below_alloc | apply pw_below_drewN | apply below_drew1 | refine below_set ?_ GE248.out) | exact HB.out))) : w.heap.size ≤ gb249))
                                  have n5_ := Aside0.mk ((by rw [hg]; exact Nat.ne_of_lt (blk_lt (g := gb248) (o := .cells #[.slice none 0 0, .int .u64 0, .int .u64 0, .int .i64 0, .int .i64 0] 36 (0, 0)) (by (with_reducible repeat (first | refine blk_drewN ?_ _ | refine blk_drew ?_ | refine blk_alloc ?_ _)); exact BK248.out)) : gb248 ≠ gb249))
                                  have n6_ := Aside0.mk ((by rw [hg]; exact Nat.ne_of_gt (blk_lt (g := gb248) (o := .cells #[.slice none 0 0, .int .u64 0, .int .u64 0, .int .i64 0, .int .i64 0] 36 (0, 0)) (by (with_reducible repeat (first | refine blk_drewN ?_ _ | refine blk_drew ?_ | refine blk_alloc ?_ _)); exact BK248.out)) : gb249 ≠ gb248))
                                  clear BK248
                                  clear HB
                                  have BK248 := n0_
                                  have HB := n1_
                                  have BK249 := n2_
                                  have GW249 := n3_
                                  have GE249 := n4_
                                  have NB248_249 := n5_
                                  have NB249_248 := n6_
                                  clear n0_ n1_ n2_ n3_ n4_ n5_ n6_
                                  clear hb hbox hg
                                  refine hK.out _ _ trivial (fun hHeld => ?_)
                                  clear hK K
                                  refine norm_ (a' := ?_) ?_ ?_
                                  rotate_left
                                  · show Act.put _ (some 8) _ = _
                                    simp only [Act.put, List.setIfInBounds_toArray, List.set_cons_zero, List.set_cons_succ, i64_w, i32_w]
                                    rfl
                                  exact norm_ (by first | (simp only [putAll, Act.put, List.setIfInBounds_toArray, List.set_cons_zero, List.set_cons_succ]; done) | (simp only [putAll, Act.put, List.setIfInBounds_toArray, List.set_cons_zero, List.set_cons_succ]; rfl)) (hJ10_11 (gb248, gb249) _ ⟨(by (with_reducible repeat (first | refine blk_drewN ?_ _ | refine blk_drew ?_ | refine blk_alloc ?_ _)); exact BK248.out), (by (with_reducible repeat (first | refine blk_drewN ?_ _ | refine blk_drew ?_ | refine blk_alloc ?_ _)); exact BK249.out), GW248.out, GE248.out, NB249_248.out, NB248_249.out, GW249.out, GE249.out, (by repeat (first | (with_reducible first | exact HB.out | apply below_alloc | apply pw_below_drewN | apply below_drew1 | refine below_set ?_ GE248.out | refine below_set ?_ GE249.out) | exact HB.out))⟩)
                            · skip
                              rintro v235 w17 ⟨h0_, h1_⟩
                              have n0_ : Aside0 (Kd.R k27 27 w17 w.heap.size (fun _ => True) v235 t234) := ⟨h0_⟩
                              have n1_ : Aside0 (Below w.heap.size w w17) := ⟨h1_⟩
                              clear HB
                              clear h0_ h1_
                              have HO236 := n0_
                              have HB := n1_
                              clear n0_ n1_
                              have hHeld := trivial
                              refine norm_ (a' := ?_) ?_ ?_
                              rotate_left
                              · simp only [putAll, Act.put, List.setIfInBounds_toArray, List.set_cons_zero, List.set_cons_succ]
                                rfl
                              refine three_ (i := 9) (j := 10) (k := 11) (Ni := some 27) (Nj := some 7) (Nk := some 8) #[true, true, true, true, true, true, true, true, true, true, false, false, false, false] #[true, true, true, true, true, true, true, true, true, false, true, false, false, false] #[true, true, true, true, true, true, true, true, true, false, false, true, false, false] rfl rfl rfl rfl rfl rfl (three_of HT_.out (by kernel_rfl)) (by decide) (by decide) (by decide) (fun K hK => ?_) (fun K hK => ?_) (fun K hK => ?_)
                              · skip
                                refine goes_ Tryd.func12 (by kernel_rfl) rfl #[.int .u64 a0, .int .u64 (IntKind.u64.wrap (a2)), .int .u64 ji10] (by rfl) rfl rfl (by (try simp only [List.map_toArray, List.map_cons, List.map_nil]); first | done | (simp only [hji10]; rfl) | rfl | (simp only [List.length_drop, List.length_take]; rfl)) ?_
                                with_reducible refine (impl_ProofNodes.calls kj3 a0 (IntKind.u64.wrap (a2)) ji10 t241 t244 t245 t246 t247 _ ?side1 A11.out).mono ?_
                                (case side1 => first | exact HG.out | exact Glob.drewN HG.out _ | exact Glob.below HG.out (by repeat (first | (with_reducible first | exact HB.out | apply below_alloc | apply pw_below_drewN | apply below_drew1) | exact HB.out)))
                                rintro e w18 ⟨v242, rfl, ho0, hb⟩
                                refine ⟨_, rfl, ?_⟩
                                have n0_ := Aside0.mk (Kd.R_elder' (by (with_reducible repeat (first | apply Kd.R_alloc | apply Kd.R_drewN | apply Kd.R_drew)); exact HO236.out) (Kd.R_base ho0) hb)
                                have n1_ := Aside0.mk (Kd.R_lower (Kd.R_new' ho0 (Kd.R_lt (by (with_reducible repeat (first | apply Kd.R_alloc | apply Kd.R_drewN | apply Kd.R_drew)); exact HO236.out))) (below_size (by repeat (first | (with_reducible first | exact HB.out | apply below_alloc | apply pw_below_drewN | apply below_drew1) | exact HB.out))))
                                have n2_ := Aside0.mk (below_step (by repeat (first | (with_reducible first | exact HB.out | apply below_alloc | apply pw_below_drewN | apply below_drew1) | exact HB.out)) hb)
                                clear HO236
                                clear HB
                                have HO236 := n0_
                                have HO243 := n1_
                                have HB := n2_
                                clear n0_ n1_ n2_
                                (try clear hb)
                                (try clear hb2)
                                (try clear hk)
                                (try clear hi)
                                (try clear ho0)
                                refine hK.out _ _ trivial (fun hHeld => ?_)
                                clear hK K
                                refine norm_ (a' := ?_) ?_ ?_
                                rotate_left
                                · show Act.put _ (some 27) _ = _
                                  simp only [Act.put, List.setIfInBounds_toArray, List.set_cons_zero, List.set_cons_succ, i64_w, i32_w]
                                  rfl
                                exact norm_ (by first | (simp only [putAll, Act.put, List.setIfInBounds_toArray, List.set_cons_zero, List.set_cons_succ]; done) | (simp only [putAll, Act.put, List.setIfInBounds_toArray, List.set_cons_zero, List.set_cons_succ]; rfl)) (hJ2_9 (v235, v242) _ ⟨(by (with_reducible repeat (first | apply Kd.R_alloc | apply Kd.R_drewN | apply Kd.R_drew)); exact Kd.R_mono HO236.out (fun _ hk => hk.2)), (by (with_reducible repeat (first | apply Kd.R_alloc | apply Kd.R_drewN | apply Kd.R_drew)); exact Kd.R_mono HO243.out (fun _ hk => hk.2)), (by repeat (first | (with_reducible first | exact HB.out | apply below_alloc | apply pw_below_drewN | apply below_drew1) | exact HB.out))⟩)
                              · skip
                                refine box_step ?hg (N := 7) ?hd (cs := #[.slice none 0 0, .int .u64 0, .int .u64 0, .int .i64 0, .int .i64 0]) (t := 36) ?hr ?_; (case hd => rfl); (case hg => rfl); (case hr => first | (go_simp; done) | (go_simp; rfl))
                                intro gb248 hg w18 hbox hb
                                have n0_ := Aside0.mk (Kd.R_below (by (with_reducible repeat (first | apply Kd.R_alloc | apply Kd.R_drewN | apply Kd.R_drew)); exact HO236.out) hb)
                                have n1_ := Aside0.mk (below_step (by repeat (first | (with_reducible first | exact HB.out | apply below_alloc | apply pw_below_drewN | apply below_drew1) | exact HB.out)) hb)
                                have n2_ := Aside0.mk (hbox)
                                have n3_ := Aside0.mk ((by rw [hg]; exact (below_size (by repeat (first | (with_reducible first | exact HB.out | apply below_alloc | apply pw_below_drewN | apply below_drew1) | exact HB.out))) : w.heap.size ≤ gb248))
                                have n4_ := Aside0.mk ((by rw [hg]; exact (below_size (by repeat (first | (with_reducible first | exact HB.out | apply below_alloc | apply pw_below_drewN | apply below_drew1) | exact HB.out))) : w.heap.size ≤ gb248))
                                clear HO236
                                clear HB
                                have HO236 := n0_
                                have HB := n1_
                                have BK248 := n2_
                                have GW248 := n3_
                                have GE248 := n4_
                                clear n0_ n1_ n2_ n3_ n4_
                                clear hb hbox hg
                                refine hK.out _ _ trivial (fun hHeld => ?_)
                                clear hK K
                                refine norm_ (a' := ?_) ?_ ?_
                                rotate_left
                                · show Act.put _ (some 7) _ = _
                                  simp only [Act.put, List.setIfInBounds_toArray, List.set_cons_zero, List.set_cons_succ, i64_w, i32_w]
                                  rfl
                                exact norm_ (by first | (simp only [putAll, Act.put, List.setIfInBounds_toArray, List.set_cons_zero, List.set_cons_succ]; done) | (simp only [putAll, Act.put, List.setIfInBounds_toArray, List.set_cons_zero, List.set_cons_succ]; rfl)) (hJ2_10 (v235, gb248) _ ⟨(by (with_reducible repeat (first | apply Kd.R_alloc | apply Kd.R_drewN | apply Kd.R_drew)); exact HO236.out), (by (with_reducible repeat (first | refine blk_drewN ?_ _ | refine blk_drew ?_ | refine blk_alloc ?_ _)); exact BK248.out), GW248.out, GE248.out, (by repeat (first | (with_reducible first | exact HB.out | apply below_alloc | apply pw_below_drewN | apply below_drew1 | refine below_set ?_ GE248.out) | exact HB.out))⟩)
                              · skip
                                refine box_step ?hg (N := 8) ?hd (cs := #[.slice none 0 0, .int .u64 0, .int .u64 0, .int .i64 0, .int .i64 0]) (t := 36) ?hr ?_; (case hd => rfl); (case hg => rfl); (case hr => first | (go_simp; done) | (go_simp; rfl))
                                intro gb249 hg w18 hbox hb
                                have n0_ := Aside0.mk (Kd.R_below (by (with_reducible repeat (first | apply Kd.R_alloc | apply Kd.R_drewN | apply Kd.R_drew)); exact HO236.out) hb)
                                have n1_ := Aside0.mk (below_step (by repeat (first | (with_reducible first | exact HB.out | apply below_alloc | apply pw_below_drewN | apply below_drew1) | exact HB.out)) hb)
                                have n2_ := Aside0.mk (hbox)
                                have n3_ := Aside0.mk ((by rw [hg]; exact (below_size (by repeat (first | (with_reducible first | exact HB.out | apply below_alloc | apply pw_below_drewN | apply below_drew1) | exact HB.out))) : w.heap.size ≤ gb249))
                                have n4_ := Aside0.mk ((by rw [hg]; exact (below_size (by repeat (first | (with_reducible first | exact HB.out | apply below_alloc | apply pw_below_drewN | apply below_drew1) | exact HB.out))) : w.heap.size ≤ gb249))
                                clear HO236
                                clear HB
                                have HO236 := n0_
                                have HB := n1_
                                have BK249 := n2_
                                have GW249 := n3_
                                have GE249 := n4_
                                clear n0_ n1_ n2_ n3_ n4_
                                clear hb hbox hg
                                refine hK.out _ _ trivial (fun hHeld => ?_)
                                clear hK K
                                refine norm_ (a' := ?_) ?_ ?_
                                rotate_left
                                · show Act.put _ (some 8) _ = _
                                  simp only [Act.put, List.setIfInBounds_toArray, List.set_cons_zero, List.set_cons_succ, i64_w, i32_w]
                                  rfl
                                exact norm_ (by first | (simp only [putAll, Act.put, List.setIfInBounds_toArray, List.set_cons_zero, List.set_cons_succ]; done) | (simp only [putAll, Act.put, List.setIfInBounds_toArray, List.set_cons_zero, List.set_cons_succ]; rfl)) (hJ2_11 (v235, gb249) _ ⟨(by (with_reducible repeat (first | apply Kd.R_alloc | apply Kd.R_drewN | apply Kd.R_drew)); exact HO236.out), (by (with_reducible repeat (first | refine blk_drewN ?_ _ | refine blk_drew ?_ | refine blk_alloc ?_ _)); exact BK249.out), GW249.out, GE249.out, (by repeat (first | (with_reducible first | exact HB.out | apply below_alloc | apply pw_below_drewN | apply below_drew1 | refine below_set ?_ GE249.out) | exact HB.out))⟩)
                          · skip
                            rintro ⟨gb248, gb249⟩ w18 ⟨h0_, h1_, h2_, h3_, h4_, h5_, h6_, h7_, h8_⟩
                            have n0_ : Aside0 (w18.heap[gb248]? = some (.cells #[.slice none 0 0, .int .u64 0, .int .u64 0, .int .i64 0, .int .i64 0] 36 (0, 0))) := ⟨h0_⟩
                            have n1_ : Aside0 (w18.heap[gb249]? = some (.cells #[.slice none 0 0, .int .u64 0, .int .u64 0, .int .i64 0, .int .i64 0] 36 (0, 0))) := ⟨h1_⟩
                            have n2_ : Aside0 (w.heap.size ≤ gb248) := ⟨h2_⟩
                            have n3_ : Aside0 (w.heap.size ≤ gb248) := ⟨h3_⟩
                            have n4_ : Aside0 (gb249 ≠ gb248) := ⟨h4_⟩
                            have n5_ : Aside0 (gb248 ≠ gb249) := ⟨h5_⟩
                            have n6_ : Aside0 (w.heap.size ≤ gb249) := ⟨h6_⟩
                            have n7_ : Aside0 (w.heap.size ≤ gb249) := ⟨h7_⟩
                            have n8_ : Aside0 (Below w.heap.size w w18) := ⟨h8_⟩
                            clear HB
                            clear h0_ h1_ h2_ h3_ h4_ h5_ h6_ h7_ h8_
                            have BK248 := n0_
                            have BK249 := n1_
                            have GW248 := n2_
                            have GE248 := n3_
                            have NB249_248 := n4_
                            have NB248_249 := n5_
                            have GW249 := n6_
                            have GE249 := n7_
                            have HB := n8_
                            clear n0_ n1_ n2_ n3_ n4_ n5_ n6_ n7_ n8_
                            have hHeld := trivial
                            refine norm_ (a' := ?_) ?_ ?_
                            rotate_left
                            · simp only [putAll, Act.put, List.setIfInBounds_toArray, List.set_cons_zero, List.set_cons_succ]
                              rfl
                            refine one_ (i := 2) (N := some 20) #[true, true, true, true, true, true, true, true, true, false, true, true, false, false] rfl rfl (one_of HT_.out (by kernel_rfl)) (by decide) (fun K hK => ?_)
                            refine goes_ Tryd.func12 (by kernel_rfl) rfl #[.int .u64 a0, .int .u64 0, .int .u64 a1] (by rfl) rfl rfl (by (try simp only [List.map_toArray, List.map_cons, List.map_nil]); first | done | rfl | (simp only [List.length_drop, List.length_take]; rfl)) ?_
                            with_reducible refine (impl_ProofNodes.calls kj3 a0 0 a1 t234 t237 t238 t239 t240 _ ?side1 A8.out).mono ?_
                            (case side1 => first | exact HG.out | exact Glob.drewN HG.out _ | exact Glob.below HG.out (by repeat (first | (with_reducible first | exact HB.out | apply below_alloc | apply pw_below_drewN | apply below_drew1 | refine below_set ?_ GE248.out | refine below_set ?_ GE249.out) | exact HB.out)))
                            rintro e w19 ⟨v235, rfl, ho0, hb⟩
                            refine ⟨_, rfl, ?_⟩
                            have n0_ := Aside0.mk (Kd.R_lower ho0 (below_size (by repeat (first | (with_reducible first | exact HB.out | apply below_alloc | apply pw_below_drewN | apply below_drew1 | refine below_set ?_ GE248.out | refine below_set ?_ GE249.out) | exact HB.out))))
                            have n1_ := Aside0.mk (blk_below (g := gb248) (o := .cells #[.slice none 0 0, .int .u64 0, .int .u64 0, .int .i64 0, .int .i64 0] 36 (0, 0)) (by (with_reducible repeat (first | refine blk_drewN ?_ _ | refine blk_drew ?_ | refine blk_alloc ?_ _)); exact BK248.out) hb)
                            have n2_ := Aside0.mk (blk_below (g := gb249) (o := .cells #[.slice none 0 0, .int .u64 0, .int .u64 0, .int .i64 0, .int .i64 0] 36 (0, 0)) (by (with_reducible repeat (first | refine blk_drewN ?_ _ | refine blk_drew ?_ | refine blk_alloc ?_ _)); exact BK249.out) hb)
                            have n3_ := Aside0.mk (below_step (by repeat (first | (with_reducible first | exact HB.out | apply below_alloc | apply pw_below_drewN | apply below_drew1 | refine below_set ?_ GE248.out | refine below_set ?_ GE249.out) | exact HB.out)) hb)
                            clear BK248
                            clear BK249
                            clear HB
                            have HO236 := n0_
                            have BK248 := n1_
                            have BK249 := n2_
                            have HB := n3_
                            clear n0_ n1_ n2_ n3_
                            (try clear hb)
                            (try clear hb2)
                            (try clear hk)
                            (try clear hi)
                            (try clear ho0)
                            refine hK.out _ _ trivial (fun hHeld => ?_)
                            clear hK K
                            refine norm_ (a' := ?_) ?_ ?_
                            rotate_left
                            · show Act.put _ (some 20) _ = _
                              simp only [Act.put, List.setIfInBounds_toArray, List.set_cons_zero, List.set_cons_succ, i64_w, i32_w]
                              rfl
                            exact norm_ (by first | (simp only [putAll, Act.put, List.setIfInBounds_toArray, List.set_cons_zero, List.set_cons_succ]; done) | (simp only [putAll, Act.put, List.setIfInBounds_toArray, List.set_cons_zero, List.set_cons_succ]; rfl)) (hJ2_10_11 (v235, gb248, gb249) _ ⟨(by (with_reducible repeat (first | apply Kd.R_alloc | apply Kd.R_drewN | apply Kd.R_drew)); exact HO236.out), (by (with_reducible repeat (first | refine blk_drewN ?_ _ | refine blk_drew ?_ | refine blk_alloc ?_ _)); exact BK248.out), (by (with_reducible repeat (first | refine blk_drewN ?_ _ | refine blk_drew ?_ | refine blk_alloc ?_ _)); exact BK249.out), GW248.out, GE248.out, NB249_248.out, NB248_249.out, GW249.out, GE249.out, (by repeat (first | (with_reducible first | exact HB.out | apply below_alloc | apply pw_below_drewN | apply below_drew1 | refine below_set ?_ GE248.out | refine below_set ?_ GE249.out) | exact HB.out))⟩)
                        · skip
                          rintro ⟨v235, gb249⟩ w18 ⟨h0_, h1_, h2_, h3_, h4_⟩
                          have n0_ : Aside0 (Kd.R k27 27 w18 w.heap.size (fun _ => True) v235 t234) := ⟨h0_⟩
                          have n1_ : Aside0 (w18.heap[gb249]? = some (.cells #[.slice none 0 0, .int .u64 0, .int .u64 0, .int .i64 0, .int .i64 0] 36 (0, 0))) := ⟨h1_⟩
                          have n2_ : Aside0 (w.heap.size ≤ gb249) := ⟨h2_⟩
                          have n3_ : Aside0 (w.heap.size ≤ gb249) := ⟨h3_⟩
                          have n4_ : Aside0 (Below w.heap.size w w18) := ⟨h4_⟩
                          clear HB
                          clear h0_ h1_ h2_ h3_ h4_
                          have HO236 := n0_
                          have BK249 := n1_
                          have GW249 := n2_
                          have GE249 := n3_
                          have HB := n4_
                          clear n0_ n1_ n2_ n3_ n4_
                          have hHeld := trivial
                          refine norm_ (a' := ?_) ?_ ?_
                          rotate_left
                          · simp only [putAll, Act.put, List.setIfInBounds_toArray, List.set_cons_zero, List.set_cons_succ]
                            rfl
                          refine two_ (i := 9) (j := 10) (Ni := some 27) (Nj := some 7) #[true, true, true, true, true, true, true, true, true, true, false, true, false, false] #[true, true, true, true, true, true, true, true, true, false, true, true, false, false] rfl rfl rfl rfl (two_of HT_.out (by kernel_rfl)) (by decide) (by decide) (fun K hK => ?_) (fun K hK => ?_)
                          · skip
                            refine goes_ Tryd.func12 (by kernel_rfl) rfl #[.int .u64 a0, .int .u64 (IntKind.u64.wrap (a2)), .int .u64 ji10] (by rfl) rfl rfl (by (try simp only [List.map_toArray, List.map_cons, List.map_nil]); first | done | (simp only [hji10]; rfl) | rfl | (simp only [List.length_drop, List.length_take]; rfl)) ?_
                            with_reducible refine (impl_ProofNodes.calls kj3 a0 (IntKind.u64.wrap (a2)) ji10 t241 t244 t245 t246 t247 _ ?side1 A11.out).mono ?_
                            (case side1 => first | exact HG.out | exact Glob.drewN HG.out _ | exact Glob.below HG.out (by repeat (first | (with_reducible first | exact HB.out | apply below_alloc | apply pw_below_drewN | apply below_drew1 | refine below_set ?_ GE249.out) | exact HB.out)))
                            rintro e w19 ⟨v242, rfl, ho0, hb⟩
                            refine ⟨_, rfl, ?_⟩
                            have n0_ := Aside0.mk (Kd.R_elder' (by (with_reducible repeat (first | apply Kd.R_alloc | apply Kd.R_drewN | apply Kd.R_drew)); exact HO236.out) (Kd.R_base ho0) hb)
                            have n1_ := Aside0.mk (Kd.R_lower (Kd.R_new' ho0 (Kd.R_lt (by (with_reducible repeat (first | apply Kd.R_alloc | apply Kd.R_drewN | apply Kd.R_drew)); exact HO236.out))) (below_size (by repeat (first | (with_reducible first | exact HB.out | apply below_alloc | apply pw_below_drewN | apply below_drew1 | refine below_set ?_ GE249.out) | exact HB.out))))
                            have n2_ := Aside0.mk (blk_below (g := gb249) (o := .cells #[.slice none 0 0, .int .u64 0, .int .u64 0, .int .i64 0, .int .i64 0] 36 (0, 0)) (by (with_reducible repeat (first | refine blk_drewN ?_ _ | refine blk_drew ?_ | refine blk_alloc ?_ _)); exact BK249.out) hb)
                            have n3_ := Aside0.mk (below_step (by repeat (first | (with_reducible first | exact HB.out | apply below_alloc | apply pw_below_drewN | apply below_drew1 | refine below_set ?_ GE249.out) | exact HB.out)) hb)
                            clear HO236
                            clear BK249
                            clear HB
                            have HO236 := n0_
                            have HO243 := n1_
                            have BK249 := n2_
                            have HB := n3_
                            clear n0_ n1_ n2_ n3_
                            (try clear hb)
                            (try clear hb2)
                            (try clear hk)
                            (try clear hi)
                            (try clear ho0)
                            refine hK.out _ _ trivial (fun hHeld => ?_)
                            clear hK K
                            refine norm_ (a' := ?_) ?_ ?_
                            rotate_left
                            · show Act.put _ (some 27) _ = _
                              simp only [Act.put, List.setIfInBounds_toArray, List.set_cons_zero, List.set_cons_succ, i64_w, i32_w]
                              rfl
                            exact norm_ (by first | (simp only [putAll, Act.put, List.setIfInBounds_toArray, List.set_cons_zero, List.set_cons_succ]; done) | (simp only [putAll, Act.put, List.setIfInBounds_toArray, List.set_cons_zero, List.set_cons_succ]; rfl)) (hJ2_9_11 (v235, v242, gb249) _ ⟨(by (with_reducible repeat (first | apply Kd.R_alloc | apply Kd.R_drewN | apply Kd.R_drew)); exact Kd.R_mono HO236.out (fun _ hk => hk.2)), (by (with_reducible repeat (first | apply Kd.R_alloc | apply Kd.R_drewN | apply Kd.R_drew)); exact Kd.R_mono HO243.out (fun _ hk => hk.2)), (by (with_reducible repeat (first | refine blk_drewN ?_ _ | refine blk_drew ?_ | refine blk_alloc ?_ _)); exact BK249.out), GW249.out, GE249.out, (by repeat (first | (with_reducible first | exact HB.out | apply below_alloc | apply pw_below_drewN | apply below_drew1 | refine below_set ?_ GE249.out) | exact HB.out))⟩)
                          · skip
                            refine box_step ?hg (N := 7) ?hd (cs := #[.slice none 0 0, .int .u64 0, .int .u64 0, .int .i64 0, .int .i64 0]) (t := 36) ?hr ?_; (case hd => rfl); (case hg => rfl); (case hr => first | (go_simp; done) | (go_simp; rfl))
                            intro gb248 hg w19 hbox hb
                            have n0_ := Aside0.mk (Kd.R_below (by (with_reducible repeat (first | apply Kd.R_alloc | apply Kd.R_drewN | apply Kd.R_drew)); exact HO236.out) hb)
                            have n1_ := Aside0.mk (blk_below (g := gb249) (o := .cells #[.slice none 0 0, .int .u64 0, .int .u64 0, .int .i64 0, .int .i64 0] 36 (0, 0)) (by (with_reducible repeat (first | refine blk_drewN ?_ _ | refine blk_drew ?_ | refine blk_alloc ?_ _)); exact BK249.out) hb)
                            have n2_ := Aside0.mk (below_step (by repeat (first | (with_reducible first | exact HB.out | apply below_alloc | apply pw_below_drewN | apply below_drew1 | refine below_set ?_ GE249.out) | exact HB.out)) hb)
                            have n3_ := Aside0.mk (hbox)
                            have n4_ := Aside0.mk ((by rw [hg]; exact (below_size (by repeat (first | (with_reducible first | exact HB.out | apply below_alloc | apply pw_below_drewN | apply below_drew1 | refine below_set ?_ GE249.out) | exact HB.out))) : w.heap.size ≤ gb248))
                            have n5_ := Aside0.mk ((by rw [hg]; exact (below_size (by repeat (first | (with_reducible first | exact HB.out | apply below_alloc | apply pw_below_drewN | apply below_drew1 | refine below_set ?_ GE249.out) | exact HB.out))) : w.heap.size ≤ gb248))
                            have n6_ := Aside0.mk ((by rw [hg]; exact Nat.ne_of_lt (blk_lt (g := gb249) (o := .cells #[.slice none 0 0, .int .u64 0, .int .u64 0, .int .i64 0, .int .i64 0] 36 (0, 0)) (by (with_reducible repeat (first | refine blk_drewN ?_ _ | refine blk_drew ?_ | refine blk_alloc ?_ _)); exact BK249.out)) : gb249 ≠ gb248))
                            have n7_ := Aside0.mk ((by rw [hg]; exact Nat.ne_of_gt (blk_lt (g := gb249) (o := .cells #[.slice none 0 0, .int .u64 0, .int .u64 0, .int .i64 0, .int .i64 0] 36 (0, 0)) (by (with_reducible repeat (first | refine blk_drewN ?_ _ | refine blk_drew ?_ | refine blk_alloc ?_ _)); exact BK249.out)) : gb248 ≠ gb249))
                            clear HO236
                            clear BK249
                            clear HB
                            have HO236 := n0_
                            have BK249 := n1_
                            have HB := n2_
                            have BK248 := n3_
                            have GW248 := n4_
                            have GE248 := n5_
                            have NB249_248 := n6_
                            have NB248_249 := n7_
                            clear n0_ n1_ n2_ n3_ n4_ n5_ n6_ n7_
                            clear hb hbox hg
                            refine hK.out _ _ trivial (fun hHeld => ?_)
                            clear hK K
                            refine norm_ (a' := ?_) ?_ ?_
                            rotate_left
                            · show Act.put _ (some 7) _ = _
                              simp only [Act.put, List.setIfInBounds_toArray, List.set_cons_zero, List.set_cons_succ, i64_w, i32_w]
                              rfl
                            exact norm_ (by first | (simp only [putAll, Act.put, List.setIfInBounds_toArray, List.set_cons_zero, List.set_cons_succ]; done) | (simp only [putAll, Act.put, List.setIfInBounds_toArray, List.set_cons_zero, List.set_cons_succ]; rfl)) (hJ2_10_11 (v235, gb248, gb249) _ ⟨(by (with_reducible repeat (first | apply Kd.R_alloc | apply Kd.R_drewN | apply Kd.R_drew)); exact HO236.out), (by (with_reducible repeat (first | refine blk_drewN ?_ _ | refine blk_drew ?_ | refine blk_alloc ?_ _)); exact BK248.out), (by (with_reducible repeat (first | refine blk_drewN ?_ _ | refine blk_drew ?_ | refine blk_alloc ?_ _)); exact BK249.out), GW248.out, GE248.out, NB249_248.out, NB248_249.out, GW249.out, GE249.out, (by repeat (first | (with_reducible first | exact HB.out | apply below_alloc | apply pw_below_drewN | apply below_drew1 | refine below_set ?_ GE249.out | refine below_set ?_ GE248.out) | exact HB.out))⟩)
                      · skip
                        rintro ⟨v235, gb248⟩ w18 ⟨h0_, h1_, h2_, h3_, h4_⟩
                        have n0_ : Aside0 (Kd.R k27 27 w18 w.heap.size (fun _ => True) v235 t234) := ⟨h0_⟩
                        have n1_ : Aside0 (w18.heap[gb248]? = some (.cells #[.slice none 0 0, .int .u64 0, .int .u64 0, .int .i64 0, .int .i64 0] 36 (0, 0))) := ⟨h1_⟩
                        have n2_ : Aside0 (w.heap.size ≤ gb248) := ⟨h2_⟩
                        have n3_ : Aside0 (w.heap.size ≤ gb248) := ⟨h3_⟩
                        have n4_ : Aside0 (Below w.heap.size w w18) := ⟨h4_⟩
                        clear HB
                        clear h0_ h1_ h2_ h3_ h4_
                        have HO236 := n0_
                        have BK248 := n1_
                        have GW248 := n2_
                        have GE248 := n3_
                        have HB := n4_
                        clear n0_ n1_ n2_ n3_ n4_
                        have hHeld := trivial
                        refine norm_ (a' := ?_) ?_ ?_
                        rotate_left
                        · simp only [putAll, Act.put, List.setIfInBounds_toArray, List.set_cons_zero, List.set_cons_succ]
                          rfl
                        refine two_ (i := 9) (j := 11) (Ni := some 27) (Nj := some 8) #[true, true, true, true, true, true, true, true, true, true, true, false, false, false] #[true, true, true, true, true, true, true, true, true, false, true, true, false, false] rfl rfl rfl rfl (two_of HT_.out (by kernel_rfl)) (by decide) (by decide) (fun K hK => ?_) (fun K hK => ?_)
                        · skip
                          refine goes_ Tryd.func12 (by kernel_rfl) rfl #[.int .u64 a0, .int .u64 (IntKind.u64.wrap (a2)), .int .u64 ji10] (by rfl) rfl rfl (by (try simp only [List.map_toArray, List.map_cons, List.map_nil]); first | done | (simp only [hji10]; rfl) | rfl | (simp only [List.length_drop, List.length_take]; rfl)) ?_
                          with_reducible refine (impl_ProofNodes.calls kj3 a0 (IntKind.u64.wrap (a2)) ji10 t241 t244 t245 t246 t247 _ ?side1 A11.out).mono ?_
                          (case side1 => first | exact HG.out | exact Glob.drewN HG.out _ | exact Glob.below HG.out (by repeat (first | (with_reducible first | exact HB.out | apply below_alloc | apply pw_below_drewN | apply below_drew1 | refine below_set ?_ GE248.out) | exact HB.out)))
                          rintro e w19 ⟨v242, rfl, ho0, hb⟩
                          refine ⟨_, rfl, ?_⟩
                          have n0_ := Aside0.mk (Kd.R_elder' (by (with_reducible repeat (first | apply Kd.R_alloc | apply Kd.R_drewN | apply Kd.R_drew)); exact HO236.out) (Kd.R_base ho0) hb)
                          have n1_ := Aside0.mk (Kd.R_lower (Kd.R_new' ho0 (Kd.R_lt (by (with_reducible repeat (first | apply Kd.R_alloc | apply Kd.R_drewN | apply Kd.R_drew)); exact HO236.out))) (below_size (by repeat (first | (with_reducible first | exact HB.out | apply below_alloc | apply pw_below_drewN | apply below_drew1 | refine below_set ?_ GE248.out) | exact HB.out))))
                          have n2_ := Aside0.mk (blk_below (g := gb248) (o := .cells #[.slice none 0 0, .int .u64 0, .int .u64 0, .int .i64 0, .int .i64 0] 36 (0, 0)) (by (with_reducible repeat (first | refine blk_drewN ?_ _ | refine blk_drew ?_ | refine blk_alloc ?_ _)); exact BK248.out) hb)
                          have n3_ := Aside0.mk (below_step (by repeat (first | (with_reducible first | exact HB.out | apply below_alloc | apply pw_below_drewN | apply below_drew1 | refine below_set ?_ GE248.out) | exact HB.out)) hb)
                          clear HO236
                          clear BK248
                          clear HB
                          have HO236 := n0_
                          have HO243 := n1_
                          have BK248 := n2_
                          have HB := n3_
                          clear n0_ n1_ n2_ n3_
                          (try clear hb)
                          (try clear hb2)
                          (try clear hk)
                          (try clear hi)
                          (try clear ho0)
                          refine hK.out _ _ trivial (fun hHeld => ?_)
                          clear hK K
                          refine norm_ (a' := ?_) ?_ ?_
                          rotate_left
                          · show Act.put _ (some 27) _ = _
                            simp only [Act.put, List.setIfInBounds_toArray, List.set_cons_zero, List.set_cons_succ, i64_w, i32_w]
                            rfl
                          exact norm_ (by first | (simp only [putAll, Act.put, List.setIfInBounds_toArray, List.set_cons_zero, List.set_cons_succ]; done) | (simp only [putAll, Act.put, List.setIfInBounds_toArray, List.set_cons_zero, List.set_cons_succ]; rfl)) (hJ2_9_10 (v235, v242, gb248) _ ⟨(by (with_reducible repeat (first | apply Kd.R_alloc | apply Kd.R_drewN | apply Kd.R_drew)); exact Kd.R_mono HO236.out (fun _ hk => hk.2)), (by (with_reducible repeat (first | apply Kd.R_alloc | apply Kd.R_drewN | apply Kd.R_drew)); exact Kd.R_mono HO243.out (fun _ hk => hk.2)), (by (with_reducible repeat (first | refine blk_drewN ?_ _ | refine blk_drew ?_ | refine blk_alloc ?_ _)); exact BK248.out), GW248.out, GE248.out, (by repeat (first | (with_reducible first | exact HB.out | apply below_alloc | apply pw_below_drewN | apply below_drew1 | refine below_set ?_ GE248.out) | exact HB.out))⟩)
                        · skip
                          refine box_step ?hg (N := 8) ?hd (cs := #[.slice none 0 0, .int .u64 0, .int .u64 0, .int .i64 0, .int .i64 0]) (t := 36) ?hr ?_; (case hd => rfl); (case hg => rfl); (case hr => first | (go_simp; done) | (go_simp; rfl))
                          intro gb249 hg w19 hbox hb
                          have n0_ := Aside0.mk (Kd.R_below (by (with_reducible repeat (first | apply Kd.R_alloc | apply Kd.R_drewN | apply Kd.R_drew)); exact HO236.out) hb)
                          have n1_ := Aside0.mk (blk_below (g := gb248) (o := .cells #[.slice none 0 0, .int .u64 0, .int .u64 0, .int .i64 0, .int .i64 0] 36 (0, 0)) (by (with_reducible repeat (first | refine blk_drewN ?_ _ | refine blk_drew ?_ | refine blk_alloc ?_ _)); exact BK248.out) hb)
                          have n2_ := Aside0.mk (below_step (by repeat (first | (with_reducible first | exact HB.out | apply below_alloc | apply pw_below_drewN | apply below_drew1 | refine below_set ?_ GE248.out) | exact HB.out)) hb)
                          have n3_ := Aside0.mk (hbox)
                          have n4_ := Aside0.mk ((by rw [hg]; exact (below_size (by repeat (first | (with_reducible first | exact HB.out | apply below_alloc | apply pw_below_drewN | apply below_drew1 | refine below_set ?_ GE248.out) | exact HB.out))) : w.heap.size ≤ gb249))
                          have n5_ := Aside0.mk ((by rw [hg]; exact (below_size (by repeat (first | (with_reducible first | exact HB.out | apply below_alloc | apply pw_below_drewN | apply below_drew1 | refine below_set ?_ GE248.out) | exact HB.out))) : w.heap.size ≤ gb249))
                          have n6_ := Aside0.mk ((by rw [hg]; exact Nat.ne_of_lt (blk_lt (g := gb248) (o := .cells #[.slice none 0 0, .int .u64 0, .int .u64 0, .int .i64 0, .int .i64 0] 36 (0, 0)) (by (with_reducible repeat (first | refine blk_drewN ?_ _ | refine blk_drew ?_ | refine blk_alloc ?_ _)); exact BK248.out)) : gb248 ≠ gb249))
                          have n7_ := Aside0.mk ((by rw [hg]; exact Nat.ne_of_gt (blk_lt (g := gb248) (o := .cells #[.slice none 0 0, .int .u64 0, .int .u64 0, .int .i64 0, .int .i64 0] 36 (0, 0)) (by (with_reducible repeat (first | refine blk_drewN ?_ _ | refine blk_drew ?_ | refine blk_alloc ?_ _)); exact BK248.out)) : gb249 ≠ gb248))
                          clear HO236
                          clear BK248
                          clear HB
                          have HO236 := n0_
                          have BK248 := n1_
                          have HB := n2_
                          have BK249 := n3_
                          have GW249 := n4_
                          have GE249 := n5_
                          have NB248_249 := n6_
                          have NB249_248 := n7_
                          clear n0_ n1_ n2_ n3_ n4_ n5_ n6_ n7_
                          clear hb hbox hg
                          refine hK.out _ _ trivial (fun hHeld => ?_)
                          clear hK K
                          refine norm_ (a' := ?_) ?_ ?_
                          rotate_left
                          · show Act.put _ (some 8) _ = _
                            simp only [Act.put, List.setIfInBounds_toArray, List.set_cons_zero, List.set_cons_succ, i64_w, i32_w]
                            rfl
                          exact norm_ (by first | (simp only [putAll, Act.put, List.setIfInBounds_toArray, List.set_cons_zero, List.set_cons_succ]; done) | (simp only [putAll, Act.put, List.setIfInBounds_toArray, List.set_cons_zero, List.set_cons_succ]; rfl)) (hJ2_10_11 (v235, gb248, gb249) _ ⟨(by (with_reducible repeat (first | apply Kd.R_alloc | apply Kd.R_drewN | apply Kd.R_drew)); exact HO236.out), (by (with_reducible repeat (first | refine blk_drewN ?_ _ | refine blk_drew ?_ | refine blk_alloc ?_ _)); exact BK248.out), (by (with_reducible repeat (first | refine blk_drewN ?_ _ | refine blk_drew ?_ | refine blk_alloc ?_ _)); exact BK249.out), GW248.out, GE248.out, NB249_248.out, NB248_249.out, GW249.out, GE249.out, (by repeat (first | (with_reducible first | exact HB.out | apply below_alloc | apply pw_below_drewN | apply below_drew1 | refine below_set ?_ GE248.out | refine below_set ?_ GE249.out) | exact HB.out))⟩)
                    · skip
                      rintro ⟨v235, v242⟩ w18 ⟨h0_, h1_, h2_⟩
                      have n0_ : Aside0 (Kd.R k27 27 w18 w.heap.size (fun k_ => some k_ ≠ (v242 : Value).ownBlock) v235 t234) := ⟨h0_⟩
                      have n1_ : Aside0 (Kd.R k27 27 w18 w.heap.size (fun k_ => some k_ ≠ (v235 : Value).ownBlock) v242 t241) := ⟨h1_⟩
                      have n2_ : Aside0 (Below w.heap.size w w18) := ⟨h2_⟩
                      clear HB
                      clear h0_ h1_ h2_
                      have HO236 := n0_
                      have HO243 := n1_
                      have HB := n2_
                      clear n0_ n1_ n2_
                      have hHeld := trivial
                      refine norm_ (a' := ?_) ?_ ?_
                      rotate_left
                      · simp only [putAll, Act.put, List.setIfInBounds_toArray, List.set_cons_zero, List.set_cons_succ]
                        rfl
                      refine two_ (i := 10) (j := 11) (Ni := some 7) (Nj := some 8) #[true, true, true, true, true, true, true, true, true, true, true, false, false, false] #[true, true, true, true, true, true, true, true, true, true, false, true, false, false] rfl rfl rfl rfl (two_of HT_.out (by kernel_rfl)) (by decide) (by decide) (fun K hK => ?_) (fun K hK => ?_)
                      · skip
                        refine box_step ?hg (N := 7) ?hd (cs := #[.slice none 0 0, .int .u64 0, .int .u64 0, .int .i64 0, .int .i64 0]) (t := 36) ?hr ?_; (case hd => rfl); (case hg => rfl); (case hr => first | (go_simp; done) | (go_simp; rfl))
                        intro gb248 hg w19 hbox hb
                        have n0_ := Aside0.mk (Kd.R_below (by (with_reducible repeat (first | apply Kd.R_alloc | apply Kd.R_drewN | apply Kd.R_drew)); exact HO236.out) hb)
                        have n1_ := Aside0.mk (Kd.R_below (by (with_reducible repeat (first | apply Kd.R_alloc | apply Kd.R_drewN | apply Kd.R_drew)); exact HO243.out) hb)
                        have n2_ := Aside0.mk (below_step (by repeat (first | (with_reducible first | exact HB.out | apply below_alloc | apply pw_below_drewN | apply below_drew1) | exact HB.out)) hb)
                        have n3_ := Aside0.mk (hbox)
                        have n4_ := Aside0.mk ((by rw [hg]; exact (below_size (by repeat (first | (with_reducible first | exact HB.out | apply below_alloc | apply pw_below_drewN | apply below_drew1) | exact HB.out))) : w.heap.size ≤ gb248))
                        have n5_ := Aside0.mk ((by rw [hg]; exact (below_size (by repeat (first | (with_reducible first | exact HB.out | apply below_alloc | apply pw_below_drewN | apply below_drew1) | exact HB.out))) : w.heap.size ≤ gb248))
                        clear HO236
                        clear HO243
                        clear HB
                        have HO236 := n0_
                        have HO243 := n1_
                        have HB := n2_
                        have BK248 := n3_
                        have GW248 := n4_
                        have GE248 := n5_
                        clear n0_ n1_ n2_ n3_ n4_ n5_
                        clear hb hbox hg
                        refine hK.out _ _ trivial (fun hHeld => ?_)
                        clear hK K
                        refine norm_ (a' := ?_) ?_ ?_
                        rotate_left
                        · show Act.put _ (some 7) _ = _
                          simp only [Act.put, List.setIfInBounds_toArray, List.set_cons_zero, List.set_cons_succ, i64_w, i32_w]
                          rfl
                        exact norm_ (by first | (simp only [putAll, Act.put, List.setIfInBounds_toArray, List.set_cons_zero, List.set_cons_succ]; done) | (simp only [putAll, Act.put, List.setIfInBounds_toArray, List.set_cons_zero, List.set_cons_succ]; rfl)) (hJ2_9_10 (v235, v242, gb248) _ ⟨(by (with_reducible repeat (first | apply Kd.R_alloc | apply Kd.R_drewN | apply Kd.R_drew)); exact HO236.out), (by (with_reducible repeat (first | apply Kd.R_alloc | apply Kd.R_drewN | apply Kd.R_drew)); exact HO243.out), (by (with_reducible repeat (first | refine blk_drewN ?_ _ | refine blk_drew ?_ | refine blk_alloc ?_ _)); exact BK248.out), GW248.out, GE248.out, (by repeat (first | (with_reducible first | exact HB.out | apply below_alloc | apply pw_below_drewN | apply below_drew1 | refine below_set ?_ GE248.out) | exact HB.out))⟩)
                      · skip
                        refine box_step ?hg (N := 8) ?hd (cs := #[.slice none 0 0, .int .u64 0, .int .u64 0, .int .i64 0, .int .i64 0]) (t := 36) ?hr ?_; (case hd => rfl); (case hg => rfl); (case hr => first | (go_simp; done) | (go_simp; rfl))
                        intro gb249 hg w19 hbox hb
                        have n0_ := Aside0.mk (Kd.R_below (by (with_reducible repeat (first | apply Kd.R_alloc | apply Kd.R_drewN | apply Kd.R_drew)); exact HO236.out) hb)
                        have n1_ := Aside0.mk (Kd.R_below (by (with_reducible repeat (first | apply Kd.R_alloc | apply Kd.R_drewN | apply Kd.R_drew)); exact HO243.out) hb)
                        have n2_ := Aside0.mk (below_step (by repeat (first | (with_reducible first | exact HB.out | apply below_alloc | apply pw_below_drewN | apply below_drew1) | exact HB.out)) hb)
                        have n3_ := Aside0.mk (hbox)
                        have n4_ := Aside0.mk ((by rw [hg]; exact (below_size (by repeat (first | (with_reducible first | exact HB.out | apply below_alloc | apply pw_below_drewN | apply below_drew1) | exact HB.out))) : w.heap.size ≤ gb249))
                        have n5_ := Aside0.mk ((by rw [hg]; exact (below_size (by repeat (first | (with_reducible first | exact HB.out | apply below_alloc | apply pw_below_drewN | apply below_drew1) | exact HB.out))) : w.heap.size ≤ gb249))
                        clear HO236
                        clear HO243
                        clear HB
                        have HO236 := n0_
                        have HO243 := n1_
                        have HB := n2_
                        have BK249 := n3_
                        have GW249 := n4_
                        have GE249 := n5_
                        clear n0_ n1_ n2_ n3_ n4_ n5_
                        clear hb hbox hg
                        refine hK.out _ _ trivial (fun hHeld => ?_)
                        clear hK K
                        refine norm_ (a' := ?_) ?_ ?_
                        rotate_left
                        · show Act.put _ (some 8) _ = _
                          simp only [Act.put, List.setIfInBounds_toArray, List.set_cons_zero, List.set_cons_succ, i64_w, i32_w]
                          rfl
                        exact norm_ (by first | (simp only [putAll, Act.put, List.setIfInBounds_toArray, List.set_cons_zero, List.set_cons_succ]; done) | (simp only [putAll, Act.put, List.setIfInBounds_toArray, List.set_cons_zero, List.set_cons_succ]; rfl)) (hJ2_9_11 (v235, v242, gb249) _ ⟨(by (with_reducible repeat (first | apply Kd.R_alloc | apply Kd.R_drewN | apply Kd.R_drew)); exact HO236.out), (by (with_reducible repeat (first | apply Kd.R_alloc | apply Kd.R_drewN | apply Kd.R_drew)); exact HO243.out), (by (with_reducible repeat (first | refine blk_drewN ?_ _ | refine blk_drew ?_ | refine blk_alloc ?_ _)); exact BK249.out), GW249.out, GE249.out, (by repeat (first | (with_reducible first | exact HB.out | apply below_alloc | apply pw_below_drewN | apply below_drew1 | refine below_set ?_ GE249.out) | exact HB.out))⟩)
                  · skip
                    rintro ⟨v235, gb248, gb249⟩ w19 ⟨h0_, h1_, h2_, h3_, h4_, h5_, h6_, h7_, h8_, h9_⟩
                    have n0_ : Aside0 (Kd.R k27 27 w19 w.heap.size (fun _ => True) v235 t234) := ⟨h0_⟩
                    have n1_ : Aside0 (w19.heap[gb248]? = some (.cells #[.slice none 0 0, .int .u64 0, .int .u64 0, .int .i64 0, .int .i64 0] 36 (0, 0))) := ⟨h1_⟩
                    have n2_ : Aside0 (w19.heap[gb249]? = some (.cells #[.slice none 0 0, .int .u64 0, .int .u64 0, .int .i64 0, .int .i64 0] 36 (0, 0))) := ⟨h2_⟩
                    have n3_ : Aside0 (w.heap.size ≤ gb248) := ⟨h3_⟩
                    have n4_ : Aside0 (w.heap.size ≤ gb248) := ⟨h4_⟩
                    have n5_ : Aside0 (gb249 ≠ gb248) := ⟨h5_⟩
                    have n6_ : Aside0 (gb248 ≠ gb249) := ⟨h6_⟩
                    have n7_ : Aside0 (w.heap.size ≤ gb249) := ⟨h7_⟩
                    have n8_ : Aside0 (w.heap.size ≤ gb249) := ⟨h8_⟩
                    have n9_ : Aside0 (Below w.heap.size w w19) := ⟨h9_⟩
                    clear HB
                    clear h0_ h1_ h2_ h3_ h4_ h5_ h6_ h7_ h8_ h9_
                    have HO236 := n0_
                    have BK248 := n1_
                    have BK249 := n2_
                    have GW248 := n3_
                    have GE248 := n4_
                    have NB249_248 := n5_
                    have NB248_249 := n6_
                    have GW249 := n7_
                    have GE249 := n8_
                    have HB := n9_
                    clear n0_ n1_ n2_ n3_ n4_ n5_ n6_ n7_ n8_ n9_
                    have hHeld := trivial
                    refine norm_ (a' := ?_) ?_ ?_
                    rotate_left
                    · simp only [putAll, Act.put, List.setIfInBounds_toArray, List.set_cons_zero, List.set_cons_succ]
                      rfl
                    refine one_ (i := 9) (N := some 27) #[true, true, true, true, true, true, true, true, true, true, true, true, false, false] rfl rfl (one_of HT_.out (by kernel_rfl)) (by decide) (fun K hK => ?_)
                    refine goes_ Tryd.func12 (by kernel_rfl) rfl #[.int .u64 a0, .int .u64 (IntKind.u64.wrap (a2)), .int .u64 ji10] (by rfl) rfl rfl (by (try simp only [List.map_toArray, List.map_cons, List.map_nil]); first | done | (simp only [hji10]; rfl) | rfl | (simp only [List.length_drop, List.length_take]; rfl)) ?_
                    with_reducible refine (impl_ProofNodes.calls kj3 a0 (IntKind.u64.wrap (a2)) ji10 t241 t244 t245 t246 t247 _ ?side1 A11.out).mono ?_
                    (case side1 => first | exact HG.out | exact Glob.drewN HG.out _ | exact Glob.below HG.out (by repeat (first | (with_reducible first | exact HB.out | apply below_alloc | apply pw_below_drewN | apply below_drew1 | refine below_set ?_ GE248.out | refine below_set ?_ GE249.out) | exact HB.out)))
                    rintro e w20 ⟨v242, rfl, ho0, hb⟩
                    refine ⟨_, rfl, ?_⟩
                    have n0_ := Aside0.mk (Kd.R_elder' (by (with_reducible repeat (first | apply Kd.R_alloc | apply Kd.R_drewN | apply Kd.R_drew)); exact HO236.out) (Kd.R_base ho0) hb)
                    have n1_ := Aside0.mk (Kd.R_lower (Kd.R_new' ho0 (Kd.R_lt (by (with_reducible repeat (first | apply Kd.R_alloc | apply Kd.R_drewN | apply Kd.R_drew)); exact HO236.out))) (below_size (by repeat (first | (with_reducible first | exact HB.out | apply below_alloc | apply pw_below_drewN | apply below_drew1 | refine below_set ?_ GE248.out | refine below_set ?_ GE249.out) | exact HB.out))))
                    have n2_ := Aside0.mk (blk_below (g := gb248) (o := .cells #[.slice none 0 0, .int .u64 0, .int .u64 0, .int .i64 0, .int .i64 0] 36 (0, 0)) (by (with_reducible repeat (first | refine blk_drewN ?_ _ | refine blk_drew ?_ | refine blk_alloc ?_ _)); exact BK248.out) hb)
                    have n3_ := Aside0.mk (blk_below (g := gb249) (o := .cells #[.slice none 0 0, .int .u64 0, .int .u64 0, .int .i64 0, .int .i64 0] 36 (0, 0)) (by (with_reducible repeat (first | refine blk_drewN ?_ _ | refine blk_drew ?_ | refine blk_alloc ?_ _)); exact BK249.out) hb)
                    have n4_ := Aside0.mk (below_step (by repeat (first | (with_reducible first | exact HB.out | apply below_alloc | apply pw_below_drewN | apply below_drew1 | refine below_set ?_ GE248.out | refine below_set ?_ GE249.out) | exact HB.out)) hb)
                    clear HO236
                    clear BK248
                    clear BK249
                    clear HB
                    have HO236 := n0_
                    have HO243 := n1_
                    have BK248 := n2_
                    have BK249 := n3_
                    have HB := n4_
                    clear n0_ n1_ n2_ n3_ n4_
                    (try clear hb)
                    (try clear hb2)
                    (try clear hk)
                    (try clear hi)
                    (try clear ho0)
                    refine hK.out _ _ trivial (fun hHeld => ?_)
                    clear hK K
                    refine norm_ (a' := ?_) ?_ ?_
                    rotate_left
                    · show Act.put _ (some 27) _ = _
                      simp only [Act.put, List.setIfInBounds_toArray, List.set_cons_zero, List.set_cons_succ, i64_w, i32_w]
                      rfl
                    exact norm_ (by first | (simp only [putAll, Act.put, List.setIfInBounds_toArray, List.set_cons_zero, List.set_cons_succ]; done) | (simp only [putAll, Act.put, List.setIfInBounds_toArray, List.set_cons_zero, List.set_cons_succ]; rfl)) (hJ2_9_10_11 (v235, v242, gb248, gb249) _ ⟨(by (with_reducible repeat (first | apply Kd.R_alloc | apply Kd.R_drewN | apply Kd.R_drew)); exact Kd.R_mono HO236.out (fun _ hk => hk.2)), (by (with_reducible repeat (first | apply Kd.R_alloc | apply Kd.R_drewN | apply Kd.R_drew)); exact Kd.R_mono HO243.out (fun _ hk => hk.2)), (by (with_reducible repeat (first | refine blk_drewN ?_ _ | refine blk_drew ?_ | refine blk_alloc ?_ _)); exact BK248.out), (by (with_reducible repeat (first | refine blk_drewN ?_ _ | refine blk_drew ?_ | refine blk_alloc ?_ _)); exact BK249.out), GW248.out, GE248.out, NB249_248.out, NB248_249.out, GW249.out, GE249.out, (by repeat (first | (with_reducible first | exact HB.out | apply below_alloc | apply pw_below_drewN | apply below_drew1 | refine below_set ?_ GE248.out | refine below_set ?_ GE249.out) | exact HB.out))⟩)
                · skip
                  rintro ⟨v235, v242, gb249⟩ w19 ⟨h0_, h1_, h2_, h3_, h4_, h5_⟩
                  have n0_ : Aside0 (Kd.R k27 27 w19 w.heap.size (fun k_ => some k_ ≠ (v242 : Value).ownBlock) v235 t234) := ⟨h0_⟩
                  have n1_ : Aside0 (Kd.R k27 27 w19 w.heap.size (fun k_ => some k_ ≠ (v235 : Value).ownBlock) v242 t241) := ⟨h1_⟩
                  have n2_ : Aside0 (w19.heap[gb249]? = some (.cells #[.slice none 0 0, .int .u64 0, .int .u64 0, .int .i64 0, .int .i64 0] 36 (0, 0))) := ⟨h2_⟩
                  have n3_ : Aside0 (w.heap.size ≤ gb249) := ⟨h3_⟩
                  have n4_ : Aside0 (w.heap.size ≤ gb249) := ⟨h4_⟩
                  have n5_ : Aside0 (Below w.heap.size w w19) := ⟨h5_⟩
                  clear HB
                  clear h0_ h1_ h2_ h3_ h4_ h5_
                  have HO236 := n0_
                  have HO243 := n1_
                  have BK249 := n2_
                  have GW249 := n3_
                  have GE249 := n4_
                  have HB := n5_
                  clear n0_ n1_ n2_ n3_ n4_ n5_
                  have hHeld := trivial
                  refine norm_ (a' := ?_) ?_ ?_
                  rotate_left
                  · simp only [putAll, Act.put, List.setIfInBounds_toArray, List.set_cons_zero, List.set_cons_succ]
                    rfl
                  refine one_ (i := 10) (N := some 7) #[true, true, true, true, true, true, true, true, true, true, true, true, false, false] rfl rfl (one_of HT_.out (by kernel_rfl)) (by decide) (fun K hK => ?_)
                  refine box_step ?hg (N := 7) ?hd (cs := #[.slice none 0 0, .int .u64 0, .int .u64 0, .int .i64 0, .int .i64 0]) (t := 36) ?hr ?_; (case hd => rfl); (case hg => rfl); (case hr => first | (go_simp; done) | (go_simp; rfl))
                  intro gb248 hg w20 hbox hb
                  have n0_ := Aside0.mk (Kd.R_below (by (with_reducible repeat (first | apply Kd.R_alloc | apply Kd.R_drewN | apply Kd.R_drew)); exact HO236.out) hb)
                  have n1_ := Aside0.mk (Kd.R_below (by (with_reducible repeat (first | apply Kd.R_alloc | apply Kd.R_drewN | apply Kd.R_drew)); exact HO243.out) hb)
                  have n2_ := Aside0.mk (blk_below (g := gb249) (o := .cells #[.slice none 0 0, .int .u64 0, .int .u64 0, .int .i64 0, .int .i64 0] 36 (0, 0)) (by (with_reducible repeat (first | refine blk_drewN ?_ _ | refine blk_drew ?_ | refine blk_alloc ?_ _)); exact BK249.out) hb)
                  have n3_ := Aside0.mk (below_step (by repeat (first | (with_reducible first | exact HB.out | apply below_alloc | apply pw_below_drewN | apply below_drew1 | refine below_set ?_ GE249.out) | exact HB.out)) hb)
                  have n4_ := Aside0.mk (hbox)
                  have n5_ := Aside0.mk ((by rw [hg]; exact (below_size (by repeat (first | (with_reducible first | exact HB.out | apply below_alloc | apply pw_below_drewN | apply below_drew1 | refine below_set ?_ GE249.out) | exact HB.out))) : w.heap.size ≤ gb248))
                  have n6_ := Aside0.mk ((by rw [hg]; exact (below_size (by repeat (first | (with_reducible first | exact HB.out | apply below_alloc | apply pw_below_drewN | apply below_drew1 | refine below_set ?_ GE249.out) | exact HB.out))) : w.heap.size ≤ gb248))
                  have n7_ := Aside0.mk ((by rw [hg]; exact Nat.ne_of_lt (blk_lt (g := gb249) (o := .cells #[.slice none 0 0, .int .u64 0, .int .u64 0, .int .i64 0, .int .i64 0] 36 (0, 0)) (by (with_reducible repeat (first | refine blk_drewN ?_ _ | refine blk_drew ?_ | refine blk_alloc ?_ _)); exact BK249.out)) : gb249 ≠ gb248))
                  have n8_ := Aside0.mk ((by rw [hg]; exact Nat.ne_of_gt (blk_lt (g := gb249) (o := .cells #[.slice none 0 0, .int .u64 0, .int .u64 0, .int .i64 0, .int .i64 0] 36 (0, 0)) (by (with_reducible repeat (first | refine blk_drewN ?_ _ | refine blk_drew ?_ | refine blk_alloc ?_ _)); exact BK249.out)) : gb248 ≠ gb249))
                  clear HO236
                  clear HO243
                  clear BK249
                  clear HB
                  have HO236 := n0_
                  have HO243 := n1_
                  have BK249 := n2_
                  have HB := n3_
                  have BK248 := n4_
                  have GW248 := n5_
                  have GE248 := n6_
                  have NB249_248 := n7_
                  have NB248_249 := n8_
                  clear n0_ n1_ n2_ n3_ n4_ n5_ n6_ n7_ n8_
                  clear hb hbox hg
                  refine hK.out _ _ trivial (fun hHeld => ?_)
                  clear hK K
                  refine norm_ (a' := ?_) ?_ ?_
                  rotate_left
                  · show Act.put _ (some 7) _ = _
                    simp only [Act.put, List.setIfInBounds_toArray, List.set_cons_zero, List.set_cons_succ, i64_w, i32_w]
                    rfl
                  exact norm_ (by first | (simp only [putAll, Act.put, List.setIfInBounds_toArray, List.set_cons_zero, List.set_cons_succ]; done) | (simp only [putAll, Act.put, List.setIfInBounds_toArray, List.set_cons_zero, List.set_cons_succ]; rfl)) (hJ2_9_10_11 (v235, v242, gb248, gb249) _ ⟨(by (with_reducible repeat (first | apply Kd.R_alloc | apply Kd.R_drewN | apply Kd.R_drew)); exact HO236.out), (by (with_reducible repeat (first | apply Kd.R_alloc | apply Kd.R_drewN | apply Kd.R_drew)); exact HO243.out), (by (with_reducible repeat (first | refine blk_drewN ?_ _ | refine blk_drew ?_ | refine blk_alloc ?_ _)); exact BK248.out), (by (with_reducible repeat (first | refine blk_drewN ?_ _ | refine blk_drew ?_ | refine blk_alloc ?_ _)); exact BK249.out), GW248.out, GE248.out, NB249_248.out, NB248_249.out, GW249.out, GE249.out, (by repeat (first | (with_reducible first | exact HB.out | apply below_alloc | apply pw_below_drewN | apply below_drew1 | refine below_set ?_ GE249.out | refine below_set ?_ GE248.out) | exact HB.out))⟩)
              · skip
                rintro ⟨v235, v242, gb248⟩ w19 ⟨h0_, h1_, h2_, h3_, h4_, h5_⟩
                have n0_ : Aside0 (Kd.R k27 27 w19 w.heap.size (fun k_ => some k_ ≠ (v242 : Value).ownBlock) v235 t234) := ⟨h0_⟩
                have n1_ : Aside0 (Kd.R k27 27 w19 w.heap.size (fun k_ => some k_ ≠ (v235 : Value).ownBlock) v242 t241) := ⟨h1_⟩
                have n2_ : Aside0 (w19.heap[gb248]? = some (.cells #[.slice none 0 0, .int .u64 0, .int .u64 0, .int .i64 0, .int .i64 0] 36 (0, 0))) := ⟨h2_⟩
                have n3_ : Aside0 (w.heap.size ≤ gb248) := ⟨h3_⟩
                have n4_ : Aside0 (w.heap.size ≤ gb248) := ⟨h4_⟩
                have n5_ : Aside0 (Below w.heap.size w w19) := ⟨h5_⟩
                clear HB
                clear h0_ h1_ h2_ h3_ h4_ h5_
                have HO236 := n0_
                have HO243 := n1_
                have BK248 := n2_
                have GW248 := n3_
                have GE248 := n4_
                have HB := n5_
                clear n0_ n1_ n2_ n3_ n4_ n5_
                have hHeld := trivial
                refine norm_ (a' := ?_) ?_ ?_
                rotate_left
                · simp only [putAll, Act.put, List.setIfInBounds_toArray, List.set_cons_zero, List.set_cons_succ]
                  rfl
                refine one_ (i := 11) (N := some 8) #[true, true, true, true, true, true, true, true, true, true, true, true, false, false] rfl rfl (one_of HT_.out (by kernel_rfl)) (by decide) (fun K hK => ?_)
                refine box_step ?hg (N := 8) ?hd (cs := #[.slice none 0 0, .int .u64 0, .int .u64 0, .int .i64 0, .int .i64 0]) (t := 36) ?hr ?_; (case hd => rfl); (case hg => rfl); (case hr => first | (go_simp; done) | (go_simp; rfl))
                intro gb249 hg w20 hbox hb
                have n0_ := Aside0.mk (Kd.R_below (by (with_reducible repeat (first | apply Kd.R_alloc | apply Kd.R_drewN | apply Kd.R_drew)); exact HO236.out) hb)
                have n1_ := Aside0.mk (Kd.R_below (by (with_reducible repeat (first | apply Kd.R_alloc | apply Kd.R_drewN | apply Kd.R_drew)); exact HO243.out) hb)
                have n2_ := Aside0.mk (blk_below (g := gb248) (o := .cells #[.slice none 0 0, .int .u64 0, .int .u64 0, .int .i64 0, .int .i64 0] 36 (0, 0)) (by (with_reducible repeat (first | refine blk_drewN ?_ _ | refine blk_drew ?_ | refine blk_alloc ?_ _)); exact BK248.out) hb)
                have n3_ := Aside0.mk (below_step (by repeat (first | (with_reducible first | exact HB.out | apply below_alloc | apply pw_below_drewN | apply below_drew1 | refine below_set ?_ GE248.out) | exact HB.out)) hb)
                have n4_ := Aside0.mk (hbox)
                have n5_ := Aside0.mk ((by rw [hg]; exact (below_size (by repeat (first | (with_reducible first | exact HB.out | apply below_alloc | apply pw_below_drewN | apply below_drew1 | refine below_set ?_ GE248.out) | exact HB.out))) : w.heap.size ≤ gb249))
                have n6_ := Aside0.mk ((by rw [hg]; exact (below_size (by repeat (first | (with_reducible first | exact HB.out | apply below_alloc | apply pw_below_drewN | apply below_drew1 | refine below_set ?_ GE248.out) | exact HB.out))) : w.heap.size ≤ gb249))
                have n7_ := Aside0.mk ((by rw [hg]; exact Nat.ne_of_lt (blk_lt (g := gb248) (o := .cells #[.slice none 0 0, .int .u64 0, .int .u64 0, .int .i64 0, .int .i64 0] 36 (0, 0)) (by (with_reducible repeat (first | refine blk_drewN ?_ _ | refine blk_drew ?_ | refine blk_alloc ?_ _)); exact BK248.out)) : gb248 ≠ gb249))
                have n8_ := Aside0.mk ((by rw [hg]; exact Nat.ne_of_gt (blk_lt (g := gb248) (o := .cells #[.slice none 0 0, .int .u64 0, .int .u64 0, .int .i64 0, .int .i64 0] 36 (0, 0)) (by (with_reducible repeat (first | refine blk_drewN ?_ _ | refine blk_drew ?_ | refine blk_alloc ?_ _)); exact BK248.out)) : gb249 ≠ gb248))
                clear HO236
                clear HO243
                clear BK248
                clear HB
                have HO236 := n0_
                have HO243 := n1_
                have BK248 := n2_
                have HB := n3_
                have BK249 := n4_
                have GW249 := n5_
                have GE249 := n6_
                have NB248_249 := n7_
                have NB249_248 := n8_
                clear n0_ n1_ n2_ n3_ n4_ n5_ n6_ n7_ n8_
                clear hb hbox hg
                refine hK.out _ _ trivial (fun hHeld => ?_)
                clear hK K
                refine norm_ (a' := ?_) ?_ ?_
                rotate_left
                · show Act.put _ (some 8) _ = _
                  simp only [Act.put, List.setIfInBounds_toArray, List.set_cons_zero, List.set_cons_succ, i64_w, i32_w]
                  rfl
                exact norm_ (by first | (simp only [putAll, Act.put, List.setIfInBounds_toArray, List.set_cons_zero, List.set_cons_succ]; done) | (simp only [putAll, Act.put, List.setIfInBounds_toArray, List.set_cons_zero, List.set_cons_succ]; rfl)) (hJ2_9_10_11 (v235, v242, gb248, gb249) _ ⟨(by (with_reducible repeat (first | apply Kd.R_alloc | apply Kd.R_drewN | apply Kd.R_drew)); exact HO236.out), (by (with_reducible repeat (first | apply Kd.R_alloc | apply Kd.R_drewN | apply Kd.R_drew)); exact HO243.out), (by (with_reducible repeat (first | refine blk_drewN ?_ _ | refine blk_drew ?_ | refine blk_alloc ?_ _)); exact BK248.out), (by (with_reducible repeat (first | refine blk_drewN ?_ _ | refine blk_drew ?_ | refine blk_alloc ?_ _)); exact BK249.out), GW248.out, GE248.out, NB249_248.out, NB248_249.out, GW249.out, GE249.out, (by repeat (first | (with_reducible first | exact HB.out | apply below_alloc | apply pw_below_drewN | apply below_drew1 | refine below_set ?_ GE248.out | refine below_set ?_ GE249.out) | exact HB.out))⟩)
            rintro ⟨v235, v242, gb248, gb249⟩ w20 ⟨h0_, h1_, h2_, h3_, h4_, h5_, h6_, h7_, h8_, h9_, h10_⟩
            have n0_ : Aside0 (Kd.R k27 27 w20 w.heap.size (fun k_ => some k_ ≠ (v242 : Value).ownBlock) v235 t234) := ⟨h0_⟩
            have n1_ : Aside0 (Kd.R k27 27 w20 w.heap.size (fun k_ => some k_ ≠ (v235 : Value).ownBlock) v242 t241) := ⟨h1_⟩
            have n2_ : Aside0 (w20.heap[gb248]? = some (.cells #[.slice none 0 0, .int .u64 0, .int .u64 0, .int .i64 0, .int .i64 0] 36 (0, 0))) := ⟨h2_⟩
            have n3_ : Aside0 (w20.heap[gb249]? = some (.cells #[.slice none 0 0, .int .u64 0, .int .u64 0, .int .i64 0, .int .i64 0] 36 (0, 0))) := ⟨h3_⟩
            have n4_ : Aside0 (w.heap.size ≤ gb248) := ⟨h4_⟩
            have n5_ : Aside0 (w.heap.size ≤ gb248) := ⟨h5_⟩
            have n6_ : Aside0 (gb249 ≠ gb248) := ⟨h6_⟩
            have n7_ : Aside0 (gb248 ≠ gb249) := ⟨h7_⟩
            have n8_ : Aside0 (w.heap.size ≤ gb249) := ⟨h8_⟩
            have n9_ : Aside0 (w.heap.size ≤ gb249) := ⟨h9_⟩
            have n10_ : Aside0 (Below w.heap.size w w20) := ⟨h10_⟩
            clear HB
            clear h0_ h1_ h2_ h3_ h4_ h5_ h6_ h7_ h8_ h9_ h10_
            have HO236 := n0_
            have HO243 := n1_
            have BK248 := n2_
            have BK249 := n3_
            have GW248 := n4_
            have GE248 := n5_
            have NB249_248 := n6_
            have NB248_249 := n7_
            have GW249 := n8_
            have GE249 := n9_
            have HB := n10_
            clear n0_ n1_ n2_ n3_ n4_ n5_ n6_ n7_ n8_ n9_ n10_
            have hHeld := trivial
            obtain ⟨Ao21, co21, eo21⟩ := Kd.R_slice HO236.out
            (first | subst eo21 | (injection eo21 with f1_ f2_ f3_; have f4_ := f1_.symm; have f5_ := f3_.symm; clear f1_ f2_ f3_; subst f4_; subst f5_))
            obtain ⟨Ao27, co27, eo27⟩ := Kd.R_slice HO243.out
            (first | subst eo27 | (injection eo27 with f1_ f2_ f3_; have f4_ := f1_.symm; have f5_ := f3_.symm; clear f1_ f2_ f3_; subst f4_; subst f5_))
            refine norm_ (a' := ?_) ?_ ?_
            rotate_left
            · simp only [putAll, Act.put, List.setIfInBounds_toArray, List.set_cons_zero, List.set_cons_succ]
              rfl
            refine one_ (i := 12) (N := none) #[true, true, true, true, true, true, true, true, true, true, true, true, true, false] rfl rfl (one_of HT_.out (by kernel_rfl)) (by decide) (fun K hK => ?_)
            have hs22 : w20.cell? ⟨gb248, 0, none⟩ = some (.slice none 0 0) := (blk_cell BK248.out 0).trans rfl
            have hfs22 := blk_frozen BK248.out 0
            have hns22_1 := NB249_248.out
            have hms22_1 := NB248_249.out
            have hs23 : w20.cell? ⟨gb248, 1, none⟩ = some (.int .u64 0) := (blk_cell BK248.out 1).trans rfl
            have hfs23 := blk_frozen BK248.out 1
            have hns23_1 := NB249_248.out
            have hms23_1 := NB248_249.out
            have hs24 : w20.cell? ⟨gb248, 2, none⟩ = some (.int .u64 0) := (blk_cell BK248.out 2).trans rfl
            have hfs24 := blk_frozen BK248.out 2
            have hns24_1 := NB249_248.out
            have hms24_1 := NB248_249.out
            have hs25 : w20.cell? ⟨gb248, 3, none⟩ = some (.int .i64 0) := (blk_cell BK248.out 3).trans rfl
            have hfs25 := blk_frozen BK248.out 3
            have hns25_1 := NB249_248.out
            have hms25_1 := NB248_249.out
            have hs26 : w20.cell? ⟨gb248, 4, none⟩ = some (.int .i64 0) := (blk_cell BK248.out 4).trans rfl
            have hfs26 := blk_frozen BK248.out 4
            have hns26_1 := NB249_248.out
            have hms26_1 := NB248_249.out
            refine skip_ (w1 := ?_) (by rfl) rfl ?_ ?_
            rotate_left
            · go_simp
              rfl
            refine hK.out _ _ trivial (fun hHeld => ?_)
            clear hK K
            refine one_ (i := 13) (N := none) #[true, true, true, true, true, true, true, true, true, true, true, true, true, true] rfl rfl (one_of HT_.out (by kernel_rfl)) (by decide) (fun K hK => ?_)
            have hs28 : w20.cell? ⟨gb249, 0, none⟩ = some (.slice none 0 0) := (blk_cell BK249.out 0).trans rfl
            have hfs28 := blk_frozen BK249.out 0
            have hns28_0 := NB248_249.out
            have hms28_0 := NB249_248.out
            have hs29 : w20.cell? ⟨gb249, 1, none⟩ = some (.int .u64 0) := (blk_cell BK249.out 1).trans rfl
            have hfs29 := blk_frozen BK249.out 1
            have hns29_0 := NB248_249.out
            have hms29_0 := NB249_248.out
            have hs30 : w20.cell? ⟨gb249, 2, none⟩ = some (.int .u64 0) := (blk_cell BK249.out 2).trans rfl
            have hfs30 := blk_frozen BK249.out 2
            have hns30_0 := NB248_249.out
            have hms30_0 := NB249_248.out
            have hs31 : w20.cell? ⟨gb249, 3, none⟩ = some (.int .i64 0) := (blk_cell BK249.out 3).trans rfl
            have hfs31 := blk_frozen BK249.out 3
            have hns31_0 := NB248_249.out
            have hms31_0 := NB249_248.out
            have hs32 : w20.cell? ⟨gb249, 4, none⟩ = some (.int .i64 0) := (blk_cell BK249.out 4).trans rfl
            have hfs32 := blk_frozen BK249.out 4
            have hns32_0 := NB248_249.out
            have hms32_0 := NB249_248.out
            refine skip_ (w1 := ?_) (by rfl) rfl ?_ ?_
            rotate_left
            · go_simp
              rfl
            refine hK.out _ _ trivial (fun hHeld => ?_)
            clear hK K
            refine done_ (done_of HT_.out (by kernel_rfl)) ?_
            try go_wp2
            have n0_ : Aside0 (Kd.R k27 27 ((((((((((w20.setCell ⟨gb248, 0, none⟩ (.slice Ao21 t234.length co21)).setCell ⟨gb248, 1, none⟩ (.int .u64 t237)).setCell ⟨gb248, 2, none⟩ (.int .u64 t238)).setCell ⟨gb248, 3, none⟩ (.int .i64 t239)).setCell ⟨gb248, 4, none⟩ (.int .i64 t240)).setCell ⟨gb249, 0, none⟩ (.slice Ao27 t241.length co27)).setCell ⟨gb249, 1, none⟩ (.int .u64 t244)).setCell ⟨gb249, 2, none⟩ (.int .u64 t245)).setCell ⟨gb249, 3, none⟩ (.int .i64 t246)).setCell ⟨gb249, 4, none⟩ (.int .i64 t247)) w.heap.size (fun k_ => some k_ ≠ (.slice Ao27 t241.length co27 : Value).ownBlock) (.slice Ao21 t234.length co21) t234) := ⟨by (with_reducible repeat (first | apply Kd.R_alloc | apply Kd.R_drewN | apply Kd.R_drew)); exact Kd.R_mono (Kd.R_far (p := ⟨gb249, 4, none⟩) (Kd.R_far (p := ⟨gb249, 3, none⟩) (Kd.R_far (p := ⟨gb249, 2, none⟩) (Kd.R_far (p := ⟨gb249, 1, none⟩) (Kd.R_far (p := ⟨gb249, 0, none⟩) (Kd.R_far (p := ⟨gb248, 4, none⟩) (Kd.R_far (p := ⟨gb248, 3, none⟩) (Kd.R_far (p := ⟨gb248, 2, none⟩) (Kd.R_far (p := ⟨gb248, 1, none⟩) (Kd.R_far (p := ⟨gb248, 0, none⟩) (Kd.R_types (Kd.R_types HO236.out BK248.out (by decide)) BK249.out (by decide)) (fun _ hk => hk.1.2) (.slice Ao21 t234.length co21)) (fun _ hk => hk.1.2) (.int .u64 t237)) (fun _ hk => hk.1.2) (.int .u64 t238)) (fun _ hk => hk.1.2) (.int .i64 t239)) (fun _ hk => hk.1.2) (.int .i64 t240)) (fun _ hk => hk.2) (.slice Ao27 t241.length co27)) (fun _ hk => hk.2) (.int .u64 t244)) (fun _ hk => hk.2) (.int .u64 t245)) (fun _ hk => hk.2) (.int .i64 t246)) (fun _ hk => hk.2) (.int .i64 t247)) (fun _ hk => hk.1.1)⟩
            have n1_ : Aside0 (Kd.R k27 27 ((((((((((w20.setCell ⟨gb248, 0, none⟩ (.slice Ao21 t234.length co21)).setCell ⟨gb248, 1, none⟩ (.int .u64 t237)).setCell ⟨gb248, 2, none⟩ (.int .u64 t238)).setCell ⟨gb248, 3, none⟩ (.int .i64 t239)).setCell ⟨gb248, 4, none⟩ (.int .i64 t240)).setCell ⟨gb249, 0, none⟩ (.slice Ao27 t241.length co27)).setCell ⟨gb249, 1, none⟩ (.int .u64 t244)).setCell ⟨gb249, 2, none⟩ (.int .u64 t245)).setCell ⟨gb249, 3, none⟩ (.int .i64 t246)).setCell ⟨gb249, 4, none⟩ (.int .i64 t247)) w.heap.size (fun k_ => some k_ ≠ (.slice Ao21 t234.length co21 : Value).ownBlock) (.slice Ao27 t241.length co27) t241) := ⟨by (with_reducible repeat (first | apply Kd.R_alloc | apply Kd.R_drewN | apply Kd.R_drew)); exact Kd.R_mono (Kd.R_far (p := ⟨gb249, 4, none⟩) (Kd.R_far (p := ⟨gb249, 3, none⟩) (Kd.R_far (p := ⟨gb249, 2, none⟩) (Kd.R_far (p := ⟨gb249, 1, none⟩) (Kd.R_far (p := ⟨gb249, 0, none⟩) (Kd.R_far (p := ⟨gb248, 4, none⟩) (Kd.R_far (p := ⟨gb248, 3, none⟩) (Kd.R_far (p := ⟨gb248, 2, none⟩) (Kd.R_far (p := ⟨gb248, 1, none⟩) (Kd.R_far (p := ⟨gb248, 0, none⟩) (Kd.R_types (Kd.R_types HO243.out BK248.out (by decide)) BK249.out (by decide)) (fun _ hk => hk.1.2) (.slice Ao21 t234.length co21)) (fun _ hk => hk.1.2) (.int .u64 t237)) (fun _ hk => hk.1.2) (.int .u64 t238)) (fun _ hk => hk.1.2) (.int .i64 t239)) (fun _ hk => hk.1.2) (.int .i64 t240)) (fun _ hk => hk.2) (.slice Ao27 t241.length co27)) (fun _ hk => hk.2) (.int .u64 t244)) (fun _ hk => hk.2) (.int .u64 t245)) (fun _ hk => hk.2) (.int .i64 t246)) (fun _ hk => hk.2) (.int .i64 t247)) (fun _ hk => hk.1.1)⟩
            have n2_ : Aside0 (((((((((((w20.setCell ⟨gb248, 0, none⟩ (.slice Ao21 t234.length co21)).setCell ⟨gb248, 1, none⟩ (.int .u64 t237)).setCell ⟨gb248, 2, none⟩ (.int .u64 t238)).setCell ⟨gb248, 3, none⟩ (.int .i64 t239)).setCell ⟨gb248, 4, none⟩ (.int .i64 t240)).setCell ⟨gb249, 0, none⟩ (.slice Ao27 t241.length co27)).setCell ⟨gb249, 1, none⟩ (.int .u64 t244)).setCell ⟨gb249, 2, none⟩ (.int .u64 t245)).setCell ⟨gb249, 3, none⟩ (.int .i64 t246)).setCell ⟨gb249, 4, none⟩ (.int .i64 t247)).heap[gb248]? = some (.cells #[.slice Ao21 t234.length co21, .int .u64 t237, .int .u64 t238, .int .i64 t239, .int .i64 t240] 36 (0, 0))) := ⟨by (with_reducible repeat (first | refine blk_drewN ?_ _ | refine blk_drew ?_ | refine blk_alloc ?_ _)); refine blk_far ?_ NB248_249.out _; (with_reducible repeat (first | refine blk_drewN ?_ _ | refine blk_drew ?_ | refine blk_alloc ?_ _)); refine blk_far ?_ NB248_249.out _; (with_reducible repeat (first | refine blk_drewN ?_ _ | refine blk_drew ?_ | refine blk_alloc ?_ _)); refine blk_far ?_ NB248_249.out _; (with_reducible repeat (first | refine blk_drewN ?_ _ | refine blk_drew ?_ | refine blk_alloc ?_ _)); refine blk_far ?_ NB248_249.out _; (with_reducible repeat (first | refine blk_drewN ?_ _ | refine blk_drew ?_ | refine blk_alloc ?_ _)); refine blk_far ?_ NB248_249.out _; (with_reducible repeat (first | refine blk_drewN ?_ _ | refine blk_drew ?_ | refine blk_alloc ?_ _)); refine blk_put (cs := #[.slice Ao21 t234.length co21, .int .u64 t237, .int .u64 t238, .int .i64 t239, .int .i64 0]) ?_ 4 _ rfl; (with_reducible repeat (first | refine blk_drewN ?_ _ | refine blk_drew ?_ | refine blk_alloc ?_ _)); refine blk_put (cs := #[.slice Ao21 t234.length co21, .int .u64 t237, .int .u64 t238, .int .i64 0, .int .i64 0]) ?_ 3 _ rfl; (with_reducible repeat (first | refine blk_drewN ?_ _ | refine blk_drew ?_ | refine blk_alloc ?_ _)); refine blk_put (cs := #[.slice Ao21 t234.length co21, .int .u64 t237, .int .u64 0, .int .i64 0, .int .i64 0]) ?_ 2 _ rfl; (with_reducible repeat (first | refine blk_drewN ?_ _ | refine blk_drew ?_ | refine blk_alloc ?_ _)); refine blk_put (cs := #[.slice Ao21 t234.length co21, .int .u64 0, .int .u64 0, .int .i64 0, .int .i64 0]) ?_ 1 _ rfl; (with_reducible repeat (first | refine blk_drewN ?_ _ | refine blk_drew ?_ | refine blk_alloc ?_ _)); refine blk_put (cs := #[.slice none 0 0, .int .u64 0, .int .u64 0, .int .i64 0, .int .i64 0]) ?_ 0 _ rfl; (with_reducible repeat (first | refine blk_drewN ?_ _ | refine blk_drew ?_ | refine blk_alloc ?_ _)); exact BK248.out⟩
            have n3_ : Aside0 (((((((((((w20.setCell ⟨gb248, 0, none⟩ (.slice Ao21 t234.length co21)).setCell ⟨gb248, 1, none⟩ (.int .u64 t237)).setCell ⟨gb248, 2, none⟩ (.int .u64 t238)).setCell ⟨gb248, 3, none⟩ (.int .i64 t239)).setCell ⟨gb248, 4, none⟩ (.int .i64 t240)).setCell ⟨gb249, 0, none⟩ (.slice Ao27 t241.length co27)).setCell ⟨gb249, 1, none⟩ (.int .u64 t244)).setCell ⟨gb249, 2, none⟩ (.int .u64 t245)).setCell ⟨gb249, 3, none⟩ (.int .i64 t246)).setCell ⟨gb249, 4, none⟩ (.int .i64 t247)).heap[gb249]? = some (.cells #[.slice Ao27 t241.length co27, .int .u64 t244, .int .u64 t245, .int .i64 t246, .int .i64 t247] 36 (0, 0))) := ⟨by (with_reducible repeat (first | refine blk_drewN ?_ _ | refine blk_drew ?_ | refine blk_alloc ?_ _)); refine blk_put (cs := #[.slice Ao27 t241.length co27, .int .u64 t244, .int .u64 t245, .int .i64 t246, .int .i64 0]) ?_ 4 _ rfl; (with_reducible repeat (first | refine blk_drewN ?_ _ | refine blk_drew ?_ | refine blk_alloc ?_ _)); refine blk_put (cs := #[.slice Ao27 t241.length co27, .int .u64 t244, .int .u64 t245, .int .i64 0, .int .i64 0]) ?_ 3 _ rfl; (with_reducible repeat (first | refine blk_drewN ?_ _ | refine blk_drew ?_ | refine blk_alloc ?_ _)); refine blk_put (cs := #[.slice Ao27 t241.length co27, .int .u64 t244, .int .u64 0, .int .i64 0, .int .i64 0]) ?_ 2 _ rfl; (with_reducible repeat (first | refine blk_drewN ?_ _ | refine blk_drew ?_ | refine blk_alloc ?_ _)); refine blk_put (cs := #[.slice Ao27 t241.length co27, .int .u64 0, .int .u64 0, .int .i64 0, .int .i64 0]) ?_ 1 _ rfl; (with_reducible repeat (first | refine blk_drewN ?_ _ | refine blk_drew ?_ | refine blk_alloc ?_ _)); refine blk_put (cs := #[.slice none 0 0, .int .u64 0, .int .u64 0, .int .i64 0, .int .i64 0]) ?_ 0 _ rfl; (with_reducible repeat (first | refine blk_drewN ?_ _ | refine blk_drew ?_ | refine blk_alloc ?_ _)); refine blk_far ?_ NB249_248.out _; (with_reducible repeat (first | refine blk_drewN ?_ _ | refine blk_drew ?_ | refine blk_alloc ?_ _)); refine blk_far ?_ NB249_248.out _; (with_reducible repeat (first | refine blk_drewN ?_ _ | refine blk_drew ?_ | refine blk_alloc ?_ _)); refine blk_far ?_ NB249_248.out _; (with_reducible repeat (first | refine blk_drewN ?_ _ | refine blk_drew ?_ | refine blk_alloc ?_ _)); refine blk_far ?_ NB249_248.out _; (with_reducible repeat (first | refine blk_drewN ?_ _ | refine blk_drew ?_ | refine blk_alloc ?_ _)); refine blk_far ?_ NB249_248.out _; (with_reducible repeat (first | refine blk_drewN ?_ _ | refine blk_drew ?_ | refine blk_alloc ?_ _)); exact BK249.out⟩
            have n4_ : Aside0 (Below w.heap.size w ((((((((((w20.setCell ⟨gb248, 0, none⟩ (.slice Ao21 t234.length co21)).setCell ⟨gb248, 1, none⟩ (.int .u64 t237)).setCell ⟨gb248, 2, none⟩ (.int .u64 t238)).setCell ⟨gb248, 3, none⟩ (.int .i64 t239)).setCell ⟨gb248, 4, none⟩ (.int .i64 t240)).setCell ⟨gb249, 0, none⟩ (.slice Ao27 t241.length co27)).setCell ⟨gb249, 1, none⟩ (.int .u64 t244)).setCell ⟨gb249, 2, none⟩ (.int .u64 t245)).setCell ⟨gb249, 3, none⟩ (.int .i64 t246)).setCell ⟨gb249, 4, none⟩ (.int .i64 t247))) := ⟨by repeat (first | (with_reducible first | exact HB.out | apply below_alloc | apply pw_below_drewN | apply below_drew1 | refine below_set ?_ GE248.out | refine below_set ?_ GE249.out) | exact HB.out)⟩
            (try clear HO236)
            (try clear HO243)
            (try clear BK248)
            (try clear BK249)
            (try clear HB)
            generalize ((((((((((w20.setCell ⟨gb248, 0, none⟩ (.slice Ao21 t234.length co21)).setCell ⟨gb248, 1, none⟩ (.int .u64 t237)).setCell ⟨gb248, 2, none⟩ (.int .u64 t238)).setCell ⟨gb248, 3, none⟩ (.int .i64 t239)).setCell ⟨gb248, 4, none⟩ (.int .i64 t240)).setCell ⟨gb249, 0, none⟩ (.slice Ao27 t241.length co27)).setCell ⟨gb249, 1, none⟩ (.int .u64 t244)).setCell ⟨gb249, 2, none⟩ (.int .u64 t245)).setCell ⟨gb249, 3, none⟩ (.int .i64 t246)).setCell ⟨gb249, 4, none⟩ (.int .i64 t247)) = w33 at n0_ n1_ n2_ n3_ n4_ ⊢
            have HO236 := n0_
            have HO243 := n1_
            have BK248 := n2_
            have BK249 := n3_
            have HB := n4_
            clear n0_ n1_ n2_ n3_ n4_
            have n0_ := Aside0.mk (Kd.R_drew HO236.out)
            have n1_ := Aside0.mk (Kd.R_drew HO243.out)
            have n2_ := Aside0.mk (blk_drew BK248.out)
            have n3_ := Aside0.mk (blk_drew BK249.out)
            have n4_ := Aside0.mk (below_drew1 HB.out)
            clear HO236
            clear HO243
            clear BK248
            clear BK249
            clear HB
            have HO236 := n0_
            have HO243 := n1_
            have BK248 := n2_
            have BK249 := n3_
            have HB := n4_
            clear n0_ n1_ n2_ n3_ n4_
            refine start_ (n := 15) (S := fun w' => w'.cell? ⟨gb248, 0, none⟩ = some (.slice Ao21 t234.length co21) ∧ w'.cell? ⟨gb248, 1, none⟩ = some (.int .u64 t237) ∧ w'.cell? ⟨gb248, 2, none⟩ = some (.int .u64 t238) ∧ w'.cell? ⟨gb248, 3, none⟩ = some (.int .i64 t239) ∧ w'.cell? ⟨gb248, 4, none⟩ = some (.int .i64 t240)) (ds := [11, 14]) #[false, false, false, false, false, false, false, false, false, false, false, false, false, false, false] (by kernel_rfl) rfl rfl ⟨(blk_cell BK248.out 0).trans rfl, (blk_cell BK248.out 1).trans rfl, (blk_cell BK248.out 2).trans rfl, (blk_cell BK248.out 3).trans rfl, (blk_cell BK248.out 4).trans rfl⟩ (fun hHeld => ?_); refine with_tabW laws_FnProofNodesScaled.tab4 laws_FnProofNodesScaled.bits4 (fun HT_ HW_ => ?_)
            generalize w33.drew = w34 at HO236 HO243 BK248 BK249 HB hHeld ⊢
            refine pure_ (i := 0) (N := some 28) (v := ?_) (a' := ?_) #[true, false, false, false, false, false, false, false, false, false, false, false, false, false, false] rfl rfl (any_of HT_.out (by kernel_rfl)) (fun _ _ _ h => h) (Or.inl ⟨by rfl, ?_⟩) ?_ ?_
            rotate_left
            · intro w'
              go_simp
              with_reducible rfl
            rotate_left
            · simp only [Act.put, List.setIfInBounds_toArray, List.set_cons_zero, List.set_cons_succ, i64_w, i32_w]
              rfl
            refine pure_ (i := 2) (N := some 30) (v := ?_) (a' := ?_) #[true, false, true, false, false, false, false, false, false, false, false, false, false, false, false] rfl rfl (any_of HT_.out (by kernel_rfl)) (fun _ _ _ h => h) (Or.inl ⟨by rfl, ?_⟩) ?_ ?_
            rotate_left
            · intro w'
              go_simp
              with_reducible rfl
            rotate_left
            · simp only [Act.put, List.setIfInBounds_toArray, List.set_cons_zero, List.set_cons_succ, i64_w, i32_w]
              rfl
            refine pure_ (i := 4) (N := some 32) (v := ?_) (a' := ?_) #[true, false, true, false, true, false, false, false, false, false, false, false, false, false, false] rfl rfl (any_of HT_.out (by kernel_rfl)) (fun _ _ _ h => h) (Or.inl ⟨by rfl, ?_⟩) ?_ ?_
            rotate_left
            · intro w'
              go_simp
              with_reducible rfl
            rotate_left
            · simp only [Act.put, List.setIfInBounds_toArray, List.set_cons_zero, List.set_cons_succ, i64_w, i32_w]
              rfl
            refine pure_ (i := 5) (N := some 33) (v := ?_) (a' := ?_) #[true, false, true, false, true, true, false, false, false, false, false, false, false, false, false] rfl rfl (any_of HT_.out (by kernel_rfl)) (fun _ _ _ h => h) (Or.inl ⟨by rfl, ?_⟩) ?_ ?_
            rotate_left
            · intro w'
              go_simp
              with_reducible rfl
            rotate_left
            · simp only [Act.put, List.setIfInBounds_toArray, List.set_cons_zero, List.set_cons_succ, i64_w, i32_w]
              rfl
            refine pure_ (i := 7) (N := some 35) (v := ?_) (a' := ?_) #[true, false, true, false, true, true, false, true, false, false, false, false, false, false, false] rfl rfl (any_of HT_.out (by kernel_rfl)) (fun _ _ _ h => h) (Or.inl ⟨by rfl, ?_⟩) ?_ ?_
            rotate_left
            · intro w'
              go_simp
              with_reducible rfl
            rotate_left
            · simp only [Act.put, List.setIfInBounds_toArray, List.set_cons_zero, List.set_cons_succ, i64_w, i32_w]
              rfl
            refine pure_ (i := 8) (N := some 36) (v := ?_) (a' := ?_) #[true, false, true, false, true, true, false, true, true, false, false, false, false, false, false] rfl rfl (any_of HT_.out (by kernel_rfl)) (fun _ _ _ h => h) (Or.inl ⟨by rfl, ?_⟩) ?_ ?_
            rotate_left
            · intro w'
              go_simp
              with_reducible rfl
            rotate_left
            · simp only [Act.put, List.setIfInBounds_toArray, List.set_cons_zero, List.set_cons_succ, i64_w, i32_w]
              rfl
            refine take_ (i := 1) (N := some 29) (v := ?_) (a' := ?_) #[true, true, true, false, true, true, false, true, true, false, false, false, false, false, false] rfl rfl (take_ofW HT_.out HW_.out (by kernel_rfl)) (fun _ _ _ h => h) (Or.inl ⟨by rfl, ?_⟩) hHeld ?_ ?_
            rotate_left
            · rintro w' ⟨s0, s1, s2, s3, s4⟩
              go_simp
              with_reducible rfl
            rotate_left
            · simp only [Act.put, List.setIfInBounds_toArray, List.set_cons_zero, List.set_cons_succ, i64_w, i32_w]
              rfl
            refine take_ (i := 6) (N := some 34) (v := ?_) (a' := ?_) #[true, true, true, false, true, true, true, true, true, false, false, false, false, false, false] rfl rfl (take_ofW HT_.out HW_.out (by kernel_rfl)) (fun _ _ _ h => h) (Or.inl ⟨by rfl, ?_⟩) hHeld ?_ ?_
            rotate_left
            · rintro w' ⟨s0, s1, s2, s3, s4⟩
              go_simp
              with_reducible rfl
            rotate_left
            · simp only [Act.put, List.setIfInBounds_toArray, List.set_cons_zero, List.set_cons_succ, i64_w, i32_w]
              rfl
            refine pure_ (i := 9) (N := some 37) (v := ?_) (a' := ?_) #[true, true, true, false, true, true, true, true, true, true, false, false, false, false, false] rfl rfl (any_of HT_.out (by kernel_rfl)) (fun _ _ _ h => h) (Or.inl ⟨by rfl, ?_⟩) ?_ ?_
            rotate_left
            · intro w'
              go_simp
              with_reducible rfl
            rotate_left
            · simp only [Act.put, List.setIfInBounds_toArray, List.set_cons_zero, List.set_cons_succ, i64_w, i32_w]
              rfl
            refine one_ (i := 3) (N := some 31) #[true, true, true, true, true, true, true, true, true, true, false, false, false, false, false] rfl rfl (one_of HT_.out (by kernel_rfl)) (by decide) (fun K hK => ?_)
            refine goes_ Tryd.func13 (by kernel_rfl) rfl #[.slice Ao21 t234.length co21, .int .i64 a2] (by rfl) rfl rfl (by (try simp only [List.map_toArray, List.map_cons, List.map_nil]); first | done | rfl | (simp only [List.length_drop, List.length_take]; rfl)) ?_
            with_reducible refine (laws_raised.calls kj3 _ _ t234 a2 t250 _ ?side1 ?side2 A12.out).mono ?_
            (case side1 => repeat (first | exact (Kd.R_reads' HO236.out).2.2 | (with_reducible refine Kd.C_alloc ?_ _) | (with_reducible refine Kd.C_drewN ?_ _) | (with_reducible refine Kd.C_drew ?_)))
            (case side2 => exact (Kd.R_reads' HO236.out).2.1)
            rintro e w35 ⟨v251, rfl, ho0, hb⟩
            refine ⟨_, rfl, ?_⟩
            have n0_ := Aside0.mk (Kd.R_elder' (by (with_reducible repeat (first | apply Kd.R_alloc | apply Kd.R_drewN | apply Kd.R_drew)); exact HO236.out) (Kd.R_base ho0) hb)
            have n1_ := Aside0.mk (Kd.R_elder' (by (with_reducible repeat (first | apply Kd.R_alloc | apply Kd.R_drewN | apply Kd.R_drew)); exact HO243.out) (Kd.R_base ho0) hb)
            have n2_ := Aside0.mk (Kd.R_lower (Kd.R_new' (Kd.R_new' ho0 (Kd.R_lt (by (with_reducible repeat (first | apply Kd.R_alloc | apply Kd.R_drewN | apply Kd.R_drew)); exact HO236.out))) (Kd.R_lt (by (with_reducible repeat (first | apply Kd.R_alloc | apply Kd.R_drewN | apply Kd.R_drew)); exact HO243.out))) (below_size (by repeat (first | (with_reducible first | exact HB.out | apply below_alloc | apply pw_below_drewN | apply below_drew1 | refine below_set ?_ GE248.out | refine below_set ?_ GE249.out) | exact HB.out))))
            have n3_ := Aside0.mk (blk_below (g := gb248) (o := .cells #[.slice Ao21 t234.length co21, .int .u64 t237, .int .u64 t238, .int .i64 t239, .int .i64 t240] 36 (0, 0)) (by (with_reducible repeat (first | refine blk_drewN ?_ _ | refine blk_drew ?_ | refine blk_alloc ?_ _)); exact BK248.out) hb)
            have n4_ := Aside0.mk (blk_below (g := gb249) (o := .cells #[.slice Ao27 t241.length co27, .int .u64 t244, .int .u64 t245, .int .i64 t246, .int .i64 t247] 36 (0, 0)) (by (with_reducible repeat (first | refine blk_drewN ?_ _ | refine blk_drew ?_ | refine blk_alloc ?_ _)); exact BK249.out) hb)
            have n5_ := Aside0.mk (below_step (by repeat (first | (with_reducible first | exact HB.out | apply below_alloc | apply pw_below_drewN | apply below_drew1 | refine below_set ?_ GE248.out | refine below_set ?_ GE249.out) | exact HB.out)) hb)
            clear HO236
            clear HO243
            clear BK248
            clear BK249
            clear HB
            have HO236 := n0_
            have HO243 := n1_
            have HO252 := n2_
            have BK248 := n3_
            have BK249 := n4_
            have HB := n5_
            clear n0_ n1_ n2_ n3_ n4_ n5_
            (try clear hb)
            (try clear hb2)
            (try clear hk)
            (try clear hi)
            (try clear ho0)
            obtain ⟨Ao36, co36, eo36⟩ := Kd.R_slice HO252.out
            (first | subst eo36 | (injection eo36 with f1_ f2_ f3_; have f4_ := f1_.symm; have f5_ := f3_.symm; clear f1_ f2_ f3_; subst f4_; subst f5_))
            refine hK.out _ _ ⟨(blk_cell BK248.out 0).trans rfl, (blk_cell BK248.out 1).trans rfl, (blk_cell BK248.out 2).trans rfl, (blk_cell BK248.out 3).trans rfl, (blk_cell BK248.out 4).trans rfl⟩ (fun hHeld => ?_)
            clear hK K
            refine norm_ (a' := ?_) ?_ ?_
            rotate_left
            · show Act.put _ (some 31) _ = _
              simp only [Act.put, List.setIfInBounds_toArray, List.set_cons_zero, List.set_cons_succ, i64_w, i32_w]
              rfl
            refine pure_ (i := 10) (N := some 38) (v := ?_) (a' := ?_) #[true, true, true, true, true, true, true, true, true, true, true, false, false, false, false] rfl rfl (any_of HT_.out (by kernel_rfl)) (fun _ _ _ h => h) (Or.inl ⟨by rfl, ?_⟩) ?_ ?_
            rotate_left
            · intro w'
              go_simp
              with_reducible rfl
            rotate_left
            · simp only [Act.put, List.setIfInBounds_toArray, List.set_cons_zero, List.set_cons_succ, i64_w, i32_w]
              rfl
            refine last_ (i := 11) (N := none) #[true, true, true, true, true, true, true, true, true, true, true, true, false, false, false] rfl rfl (one_of HT_.out (by kernel_rfl)) (by decide) (fun K hK => ?_)
            have hs37 : w35.cell? ⟨gb248, 0, none⟩ = some (.slice Ao21 t234.length co21) := (blk_cell BK248.out 0).trans rfl
            have hfs37 := blk_frozen BK248.out 0
            have hns37_1 := NB249_248.out
            have hms37_1 := NB248_249.out
            refine skip_ (w1 := ?_) (by rfl) rfl ?_ ?_
            rotate_left
            · go_simp
              rfl
            refine hK.out _ _ ?_
            clear hK K
            refine pure_ (i := 12) (N := some 39) (v := ?_) (a' := ?_) #[true, true, true, true, true, true, true, true, true, true, true, true, true, false, false] rfl rfl (any_of HT_.out (by kernel_rfl)) (fun _ _ _ h => h) (Or.inl ⟨by rfl, ?_⟩) ?_ ?_
            rotate_left
            · intro w'
              go_simp
              with_reducible rfl
            rotate_left
            · simp only [Act.put, List.setIfInBounds_toArray, List.set_cons_zero, List.set_cons_succ, i64_w, i32_w]
              rfl
            refine pure_ (i := 13) (N := some 40) (v := ?_) (a' := ?_) #[true, true, true, true, true, true, true, true, true, true, true, true, true, true, false] rfl rfl (any_of HT_.out (by kernel_rfl)) (fun _ _ _ h => h) (Or.inl ⟨by rfl, ?_⟩) ?_ ?_
            rotate_left
            · intro w'
              go_simp
              with_reducible rfl
            rotate_left
            · simp only [Act.put, List.setIfInBounds_toArray, List.set_cons_zero, List.set_cons_succ, i64_w, i32_w]
              rfl
            refine last_ (i := 14) (N := none) #[true, true, true, true, true, true, true, true, true, true, true, true, true, true, true] rfl rfl (one_of HT_.out (by kernel_rfl)) (by decide) (fun K hK => ?_)
            have hs38 : w35.cell? ⟨gb248, 1, none⟩ = some (.int .u64 t237) := (blk_cell BK248.out 1).trans rfl
            have hfs38 := blk_frozen BK248.out 1
            have hns38_1 := NB249_248.out
            have hms38_1 := NB248_249.out
            refine skip_ (w1 := ?_) (by rfl) rfl ?_ ?_
            rotate_left
            · go_simp
              rfl
            refine hK.out _ _ ?_
            clear hK K
            refine done_ (done_of HT_.out (by kernel_rfl)) ?_
            have hnb39 := NB248_249.out
            have hnc39 := NB249_248.out
            have hcz40_0 : w35.cell? ⟨gb248, 0, none⟩ = some (.slice Ao21 t234.length co21) := (blk_cell BK248.out 0).trans rfl
            have hcz40_1 : w35.cell? ⟨gb248, 1, none⟩ = some (.int .u64 t237) := (blk_cell BK248.out 1).trans rfl
            have hcz40_2 : w35.cell? ⟨gb248, 2, none⟩ = some (.int .u64 t238) := (blk_cell BK248.out 2).trans rfl
            have hcz40_3 : w35.cell? ⟨gb248, 3, none⟩ = some (.int .i64 t239) := (blk_cell BK248.out 3).trans rfl
            have hcz40_4 : w35.cell? ⟨gb248, 4, none⟩ = some (.int .i64 t240) := (blk_cell BK248.out 4).trans rfl
            have hfz40_0 := blk_frozen BK248.out 0
            have hfz40_1 := blk_frozen BK248.out 1
            have hfz40_2 := blk_frozen BK248.out 2
            have hfz40_3 := blk_frozen BK248.out 3
            have hfz40_4 := blk_frozen BK248.out 4
            have hcz41_0 : w35.cell? ⟨gb249, 0, none⟩ = some (.slice Ao27 t241.length co27) := (blk_cell BK249.out 0).trans rfl
            have hcz41_1 : w35.cell? ⟨gb249, 1, none⟩ = some (.int .u64 t244) := (blk_cell BK249.out 1).trans rfl
            have hcz41_2 : w35.cell? ⟨gb249, 2, none⟩ = some (.int .u64 t245) := (blk_cell BK249.out 2).trans rfl
            have hcz41_3 : w35.cell? ⟨gb249, 3, none⟩ = some (.int .i64 t246) := (blk_cell BK249.out 3).trans rfl
            have hcz41_4 : w35.cell? ⟨gb249, 4, none⟩ = some (.int .i64 t247) := (blk_cell BK249.out 4).trans rfl
            have hfz41_0 := blk_frozen BK249.out 0
            have hfz41_1 := blk_frozen BK249.out 1
            have hfz41_2 := blk_frozen BK249.out 2
            have hfz41_3 := blk_frozen BK249.out 3
            have hfz41_4 := blk_frozen BK249.out 4
            try go_wp2_with (first | ((with_reducible refine gate_callee (f := 14) rfl ?_); refine goesL_ (some 43) rfl rfl Tryd.func14 (by kernel_rfl) rfl #[.agg #[.slice Ao36 t250.length co36, .int .u64 (IntKind.u64.wrap (t237 + (IntKind.u64.wrap (a2)))), .int .u64 t238, .int .i64 t239, .int .i64 t240], .agg #[.slice Ao27 t241.length co27, .int .u64 t244, .int .u64 t245, .int .i64 t246, .int .i64 t247]] rfl (by (try simp only [List.map_toArray, List.map_cons, List.map_nil]); first | done | rfl | (simp only [List.length_drop, List.length_take]; rfl)) ?_; (with_reducible refine (spec_SameProof.calls kj3 _ _ t250 (IntKind.u64.wrap (t237 + (IntKind.u64.wrap (a2)))) t238 t239 t240 _ _ t241 t244 t245 t246 t247 true _ ?side1 ?side2 ?side3 ?side4 A13.out).mono ?_); (case side1 => refine (Kd.R_reads' (e := 27) (base := w.heap.size) (ok := fun k_ => ((True ∧ some k_ ≠ (.slice Ao21 t234.length co21 : Value).ownBlock) ∧ some k_ ≠ (.slice Ao27 t241.length co27 : Value).ownBlock)) (n := t250.length) (c := co36) ?_).2.2; exact (by (with_reducible repeat (first | apply Kd.R_alloc | apply Kd.R_drewN | apply Kd.R_drew)); exact (Kd.R_mono (Kd.R_far (p := ⟨gb248, 1, none⟩) (Kd.R_far (p := ⟨gb248, 0, none⟩) (Kd.R_types HO252.out BK248.out (by decide)) (fun _ hk => hk.2) (.slice Ao36 t250.length co36)) (fun _ hk => hk.2) (.int .u64 (IntKind.u64.wrap (t237 + (IntKind.u64.wrap (a2)))))) (fun _ h_ => h_.1)))); (case side2 => exact (Kd.R_reads' HO252.out).2.1); (case side3 => refine (Kd.R_reads' (e := 27) (base := w.heap.size) (ok := fun k_ => (some k_ ≠ (.slice Ao21 t234.length co21 : Value).ownBlock ∧ some k_ ≠ (.slice Ao36 t250.length co36 : Value).ownBlock)) (n := t241.length) (c := co27) ?_).2.2; exact (by (with_reducible repeat (first | apply Kd.R_alloc | apply Kd.R_drewN | apply Kd.R_drew)); exact (Kd.R_mono (Kd.R_far (p := ⟨gb248, 1, none⟩) (Kd.R_far (p := ⟨gb248, 0, none⟩) (Kd.R_types HO243.out BK248.out (by decide)) (fun _ hk => hk.2) (.slice Ao36 t250.length co36)) (fun _ hk => hk.2) (.int .u64 (IntKind.u64.wrap (t237 + (IntKind.u64.wrap (a2)))))) (fun _ h_ => h_.1)))); (case side4 => exact (Kd.R_reads' HO243.out).2.1); rintro e w42 ⟨rfl, hb⟩; refine ⟨_, rfl, ?_⟩; have n0_ := Aside0.mk (Kd.R_below (by (with_reducible repeat (first | apply Kd.R_alloc | apply Kd.R_drewN | apply Kd.R_drew)); exact (Kd.R_mono (Kd.R_far (p := ⟨gb248, 1, none⟩) (Kd.R_far (p := ⟨gb248, 0, none⟩) (Kd.R_types HO236.out BK248.out (by decide)) (fun _ hk => hk.2) (.slice Ao36 t250.length co36)) (fun _ hk => hk.2) (.int .u64 (IntKind.u64.wrap (t237 + (IntKind.u64.wrap (a2)))))) (fun _ h_ => h_.1))) hb); have n1_ := Aside0.mk (Kd.R_below (by (with_reducible repeat (first | apply Kd.R_alloc | apply Kd.R_drewN | apply Kd.R_drew)); exact (Kd.R_mono (Kd.R_far (p := ⟨gb248, 1, none⟩) (Kd.R_far (p := ⟨gb248, 0, none⟩) (Kd.R_types HO243.out BK248.out (by decide)) (fun _ hk => hk.2) (.slice Ao36 t250.length co36)) (fun _ hk => hk.2) (.int .u64 (IntKind.u64.wrap (t237 + (IntKind.u64.wrap (a2)))))) (fun _ h_ => h_.1))) hb); have n2_ := Aside0.mk (Kd.R_below (by (with_reducible repeat (first | apply Kd.R_alloc | apply Kd.R_drewN | apply Kd.R_drew)); exact (Kd.R_mono (Kd.R_far (p := ⟨gb248, 1, none⟩) (Kd.R_far (p := ⟨gb248, 0, none⟩) (Kd.R_types HO252.out BK248.out (by decide)) (fun _ hk => hk.2) (.slice Ao36 t250.length co36)) (fun _ hk => hk.2) (.int .u64 (IntKind.u64.wrap (t237 + (IntKind.u64.wrap (a2)))))) (fun _ h_ => h_.1))) hb); have n3_ := Aside0.mk (blk_below (g := gb248) (o := .cells #[.slice Ao36 t250.length co36, .int .u64 (IntKind.u64.wrap (t237 + (IntKind.u64.wrap (a2)))), .int .u64 t238, .int .i64 t239, .int .i64 t240] 36 (0, 0)) (by (with_reducible repeat (first | refine blk_drewN ?_ _ | refine blk_drew ?_ | refine blk_alloc ?_ _)); refine blk_put (cs := #[.slice Ao36 t250.length co36, .int .u64 t237, .int .u64 t238, .int .i64 t239, .int .i64 t240]) ?_ 1 _ rfl; (with_reducible repeat (first | refine blk_drewN ?_ _ | refine blk_drew ?_ | refine blk_alloc ?_ _)); refine blk_put (cs := #[.slice Ao21 t234.length co21, .int .u64 t237, .int .u64 t238, .int .i64 t239, .int .i64 t240]) ?_ 0 _ rfl; (with_reducible repeat (first | refine blk_drewN ?_ _ | refine blk_drew ?_ | refine blk_alloc ?_ _)); exact BK248.out) hb); have n4_ := Aside0.mk (blk_below (g := gb249) (o := .cells #[.slice Ao27 t241.length co27, .int .u64 t244, .int .u64 t245, .int .i64 t246, .int .i64 t247] 36 (0, 0)) (by (with_reducible repeat (first | refine blk_drewN ?_ _ | refine blk_drew ?_ | refine blk_alloc ?_ _)); refine blk_far ?_ NB249_248.out _; (with_reducible repeat (first | refine blk_drewN ?_ _ | refine blk_drew ?_ | refine blk_alloc ?_ _)); refine blk_far ?_ NB249_248.out _; (with_reducible repeat (first | refine blk_drewN ?_ _ | refine blk_drew ?_ | refine blk_alloc ?_ _)); exact BK249.out) hb); have n5_ := Aside0.mk (below_step (by repeat (first | (with_reducible first | exact HB.out | apply below_alloc | apply pw_below_drewN | apply below_drew1 | refine below_set ?_ GE248.out | refine below_set ?_ GE249.out) | exact HB.out)) hb); clear HO236; clear HO243; clear HO252; clear BK248; clear BK249; clear HB; have HO236 := n0_; have HO243 := n1_; have HO252 := n2_; have BK248 := n3_; have BK249 := n4_; have HB := n5_; clear n0_ n1_ n2_ n3_ n4_ n5_; (try clear hb); (try clear hb2); (try clear hk); (try clear hi); have hcz43_0 : w42.cell? ⟨gb248, 0, none⟩ = some (.slice Ao36 t250.length co36) := (blk_cell BK248.out 0).trans rfl; have hcz43_1 : w42.cell? ⟨gb248, 1, none⟩ = some (.int .u64 (IntKind.u64.wrap (t237 + (IntKind.u64.wrap (a2))))) := (blk_cell BK248.out 1).trans rfl; have hcz43_2 : w42.cell? ⟨gb248, 2, none⟩ = some (.int .u64 t238) := (blk_cell BK248.out 2).trans rfl; have hcz43_3 : w42.cell? ⟨gb248, 3, none⟩ = some (.int .i64 t239) := (blk_cell BK248.out 3).trans rfl; have hcz43_4 : w42.cell? ⟨gb248, 4, none⟩ = some (.int .i64 t240) := (blk_cell BK248.out 4).trans rfl; have hfz43_0 := blk_frozen BK248.out 0; have hfz43_1 := blk_frozen BK248.out 1; have hfz43_2 := blk_frozen BK248.out 2; have hfz43_3 := blk_frozen BK248.out 3; have hfz43_4 := blk_frozen BK248.out 4))
            go_ret
            exact ⟨by first | rfl | (simp [errW_none, errW_some] <;> rfl) | (simp only [← hji10]; first | rfl | (simp [errW_none, errW_some] <;> rfl)) | (simp [*, errW_none, errW_some] <;> rfl), by repeat (first | (with_reducible first | exact HB.out | apply below_alloc | apply pw_below_drewN | apply below_drew1 | refine below_set ?_ GE248.out | refine below_set ?_ GE249.out) | exact HB.out)⟩
          · replace c14 := Bool.eq_false_iff.mpr c14
            subst c14
            have H1 : (some false) = some r := by rw [if_neg (show ¬ (false = true) by decide)] at H; exact H
            clear H
            have H := H1
            clear H1
            obtain rfl := Option.some.inj H
            try go_wp2
            have n0_ := Aside0.mk (below_drew1 HB.out)
            clear HB
            have HB := n0_
            clear n0_
            refine start_ (n := 14) (S := fun w' => True) (ds := []) #[false, false, false, false, false, false, false, false, false, false, false, false, false, false] (by kernel_rfl) rfl rfl trivial (fun hHeld => ?_); refine with_tabW laws_FnProofNodesScaled.tab3 laws_FnProofNodesScaled.bits3 (fun HT_ HW_ => ?_)
            generalize wc.drew = w44 at HB hHeld ⊢
            refine pure_ (i := 0) (N := some 18) (v := ?_) (a' := ?_) #[true, false, false, false, false, false, false, false, false, false, false, false, false, false] rfl rfl (any_of HT_.out (by kernel_rfl)) (fun _ _ _ h => h) (Or.inl ⟨by rfl, ?_⟩) ?_ ?_
            rotate_left
            · intro w'
              go_simp
              with_reducible rfl
            rotate_left
            · simp only [Act.put, List.setIfInBounds_toArray, List.set_cons_zero, List.set_cons_succ, i64_w, i32_w]
              rfl
            refine pure_ (i := 1) (N := some 19) (v := ?_) (a' := ?_) #[true, true, false, false, false, false, false, false, false, false, false, false, false, false] rfl rfl (any_of HT_.out (by kernel_rfl)) (fun _ _ _ h => h) (Or.inl ⟨by rfl, ?_⟩) ?_ ?_
            rotate_left
            · intro w'
              go_simp
              with_reducible rfl
            rotate_left
            · simp only [Act.put, List.setIfInBounds_toArray, List.set_cons_zero, List.set_cons_succ, i64_w, i32_w]
              rfl
            refine pure_ (i := 3) (N := some 21) (v := ?_) (a' := ?_) #[true, true, false, true, false, false, false, false, false, false, false, false, false, false] rfl rfl (any_of HT_.out (by kernel_rfl)) (fun _ _ _ h => h) (Or.inl ⟨by rfl, ?_⟩) ?_ ?_
            rotate_left
            · intro w'
              go_simp
              with_reducible rfl
            rotate_left
            · simp only [Act.put, List.setIfInBounds_toArray, List.set_cons_zero, List.set_cons_succ, i64_w, i32_w]
              rfl
            refine pure_ (i := 4) (N := some 22) (v := ?_) (a' := ?_) #[true, true, false, true, true, false, false, false, false, false, false, false, false, false] rfl rfl (any_of HT_.out (by kernel_rfl)) (fun _ _ _ h => h) (Or.inl ⟨by rfl, ?_⟩) ?_ ?_
            rotate_left
            · intro w'
              go_simp
              with_reducible rfl
            rotate_left
            · simp only [Act.put, List.setIfInBounds_toArray, List.set_cons_zero, List.set_cons_succ, i64_w, i32_w]
              rfl
            refine pure_ (i := 5) (N := some 23) (v := ?_) (a' := ?_) #[true, true, false, true, true, true, false, false, false, false, false, false, false, false] rfl rfl (any_of HT_.out (by kernel_rfl)) (fun _ _ _ h => h) (Or.inl ⟨by rfl, ?_⟩) ?_ ?_
            rotate_left
            · intro w'
              go_simp
              with_reducible rfl
            rotate_left
            · simp only [Act.put, List.setIfInBounds_toArray, List.set_cons_zero, List.set_cons_succ, i64_w, i32_w]
              rfl
            refine pure_ (i := 6) (N := some 24) (v := ?_) (a' := ?_) #[true, true, false, true, true, true, true, false, false, false, false, false, false, false] rfl rfl (any_of HT_.out (by kernel_rfl)) (fun _ _ _ h => h) (Or.inl ⟨by rfl, ?_⟩) ?_ ?_
            rotate_left
            · intro w'
              go_simp
              with_reducible rfl
            rotate_left
            · simp only [Act.put, List.setIfInBounds_toArray, List.set_cons_zero, List.set_cons_succ, i64_w, i32_w]
              rfl
            refine pure_ (i := 7) (N := some 25) (v := ?_) (a' := ?_) #[true, true, false, true, true, true, true, true, false, false, false, false, false, false] rfl rfl (any_of HT_.out (by kernel_rfl)) (fun _ _ _ h => h) (Or.inl ⟨by rfl, ?_⟩) ?_ ?_
            rotate_left
            · intro w'
              go_simp
              with_reducible rfl
            rotate_left
            · simp only [Act.put, List.setIfInBounds_toArray, List.set_cons_zero, List.set_cons_succ, i64_w, i32_w]
              rfl
            refine pure_ (i := 8) (N := some 26) (v := ?_) (a' := ?_) #[true, true, false, true, true, true, true, true, true, false, false, false, false, false] rfl rfl (any_of HT_.out (by kernel_rfl)) (fun _ _ _ h => h) (Or.inl ⟨by rfl, ?_⟩) ?_ ?_
            rotate_left
            · intro w'
              go_simp
              with_reducible rfl
            rotate_left
            · simp only [Act.put, List.setIfInBounds_toArray, List.set_cons_zero, List.set_cons_succ, i64_w, i32_w]
              rfl
            refine join_ (σ := Value × Value × Nat × Nat) 2 #[true, true, true, true, true, true, true, true, true, true, true, true, false, false] (fun s_ => [(20, .agg #[s_.1, .int .u64 t237, .int .u64 t238, .int .i64 t239, .int .i64 t240]), (27, .agg #[s_.2.1, .int .u64 t244, .int .u64 t245, .int .i64 t246, .int .i64 t247]), (7, .pointer (some ⟨s_.2.2.1, 0, none⟩)), (8, .pointer (some ⟨s_.2.2.2, 0, none⟩))]) (fun s_ w' => (Kd.R k27 27 w' w.heap.size (fun k_ => some k_ ≠ (s_.2.1 : Value).ownBlock) s_.1 t234) ∧ (Kd.R k27 27 w' w.heap.size (fun k_ => some k_ ≠ (s_.1 : Value).ownBlock) s_.2.1 t241) ∧ (w'.heap[s_.2.2.1]? = some (.cells #[.slice none 0 0, .int .u64 0, .int .u64 0, .int .i64 0, .int .i64 0] 36 (0, 0))) ∧ (w'.heap[s_.2.2.2]? = some (.cells #[.slice none 0 0, .int .u64 0, .int .u64 0, .int .i64 0, .int .i64 0] 36 (0, 0))) ∧ (w.heap.size ≤ s_.2.2.1) ∧ (w.heap.size ≤ s_.2.2.1) ∧ (s_.2.2.2 ≠ s_.2.2.1) ∧ (s_.2.2.1 ≠ s_.2.2.2) ∧ (w.heap.size ≤ s_.2.2.2) ∧ (w.heap.size ≤ s_.2.2.2) ∧ (Below w.heap.size w w')) ?_ ?_
            rotate_left
            · intro hJ2_9_10_11
              refine join_ (σ := Value × Value × Nat) 3 #[true, true, true, true, true, true, true, true, true, true, true, false, false, false] (fun s_ => [(20, .agg #[s_.1, .int .u64 t237, .int .u64 t238, .int .i64 t239, .int .i64 t240]), (27, .agg #[s_.2.1, .int .u64 t244, .int .u64 t245, .int .i64 t246, .int .i64 t247]), (7, .pointer (some ⟨s_.2.2, 0, none⟩))]) (fun s_ w' => (Kd.R k27 27 w' w.heap.size (fun k_ => some k_ ≠ (s_.2.1 : Value).ownBlock) s_.1 t234) ∧ (Kd.R k27 27 w' w.heap.size (fun k_ => some k_ ≠ (s_.1 : Value).ownBlock) s_.2.1 t241) ∧ (w'.heap[s_.2.2]? = some (.cells #[.slice none 0 0, .int .u64 0, .int .u64 0, .int .i64 0, .int .i64 0] 36 (0, 0))) ∧ (w.heap.size ≤ s_.2.2) ∧ (w.heap.size ≤ s_.2.2) ∧ (Below w.heap.size w w')) ?_ ?_
              rotate_left
              · intro hJ2_9_10
                refine join_ (σ := Value × Value × Nat) 3 #[true, true, true, true, true, true, true, true, true, true, false, true, false, false] (fun s_ => [(20, .agg #[s_.1, .int .u64 t237, .int .u64 t238, .int .i64 t239, .int .i64 t240]), (27, .agg #[s_.2.1, .int .u64 t244, .int .u64 t245, .int .i64 t246, .int .i64 t247]), (8, .pointer (some ⟨s_.2.2, 0, none⟩))]) (fun s_ w' => (Kd.R k27 27 w' w.heap.size (fun k_ => some k_ ≠ (s_.2.1 : Value).ownBlock) s_.1 t234) ∧ (Kd.R k27 27 w' w.heap.size (fun k_ => some k_ ≠ (s_.1 : Value).ownBlock) s_.2.1 t241) ∧ (w'.heap[s_.2.2]? = some (.cells #[.slice none 0 0, .int .u64 0, .int .u64 0, .int .i64 0, .int .i64 0] 36 (0, 0))) ∧ (w.heap.size ≤ s_.2.2) ∧ (w.heap.size ≤ s_.2.2) ∧ (Below w.heap.size w w')) ?_ ?_
                rotate_left
                · intro hJ2_9_11
                  refine join_ (σ := Value × Nat × Nat) 3 #[true, true, true, true, true, true, true, true, true, false, true, true, false, false] (fun s_ => [(20, .agg #[s_.1, .int .u64 t237, .int .u64 t238, .int .i64 t239, .int .i64 t240]), (7, .pointer (some ⟨s_.2.1, 0, none⟩)), (8, .pointer (some ⟨s_.2.2, 0, none⟩))]) (fun s_ w' => (Kd.R k27 27 w' w.heap.size (fun _ => True) s_.1 t234) ∧ (w'.heap[s_.2.1]? = some (.cells #[.slice none 0 0, .int .u64 0, .int .u64 0, .int .i64 0, .int .i64 0] 36 (0, 0))) ∧ (w'.heap[s_.2.2]? = some (.cells #[.slice none 0 0, .int .u64 0, .int .u64 0, .int .i64 0, .int .i64 0] 36 (0, 0))) ∧ (w.heap.size ≤ s_.2.1) ∧ (w.heap.size ≤ s_.2.1) ∧ (s_.2.2 ≠ s_.2.1) ∧ (s_.2.1 ≠ s_.2.2) ∧ (w.heap.size ≤ s_.2.2) ∧ (w.heap.size ≤ s_.2.2) ∧ (Below w.heap.size w w')) ?_ ?_
                  rotate_left
                  · intro hJ2_10_11
                    refine join_ (σ := Value × Value) 4 #[true, true, true, true, true, true, true, true, true, true, false, false, false, false] (fun s_ => [(20, .agg #[s_.1, .int .u64 t237, .int .u64 t238, .int .i64 t239, .int .i64 t240]), (27, .agg #[s_.2, .int .u64 t244, .int .u64 t245, .int .i64 t246, .int .i64 t247])]) (fun s_ w' => (Kd.R k27 27 w' w.heap.size (fun k_ => some k_ ≠ (s_.2 : Value).ownBlock) s_.1 t234) ∧ (Kd.R k27 27 w' w.heap.size (fun k_ => some k_ ≠ (s_.1 : Value).ownBlock) s_.2 t241) ∧ (Below w.heap.size w w')) ?_ ?_
                    rotate_left
                    · intro hJ2_9
                      refine join_ (σ := Value × Nat) 4 #[true, true, true, true, true, true, true, true, true, false, true, false, false, false] (fun s_ => [(20, .agg #[s_.1, .int .u64 t237, .int .u64 t238, .int .i64 t239, .int .i64 t240]), (7, .pointer (some ⟨s_.2, 0, none⟩))]) (fun s_ w' => (Kd.R k27 27 w' w.heap.size (fun _ => True) s_.1 t234) ∧ (w'.heap[s_.2]? = some (.cells #[.slice none 0 0, .int .u64 0, .int .u64 0, .int .i64 0, .int .i64 0] 36 (0, 0))) ∧ (w.heap.size ≤ s_.2) ∧ (w.heap.size ≤ s_.2) ∧ (Below w.heap.size w w')) ?_ ?_
                      rotate_left
                      · intro hJ2_10
                        refine join_ (σ := Value × Nat) 4 #[true, true, true, true, true, true, true, true, true, false, false, true, false, false] (fun s_ => [(20, .agg #[s_.1, .int .u64 t237, .int .u64 t238, .int .i64 t239, .int .i64 t240]), (8, .pointer (some ⟨s_.2, 0, none⟩))]) (fun s_ w' => (Kd.R k27 27 w' w.heap.size (fun _ => True) s_.1 t234) ∧ (w'.heap[s_.2]? = some (.cells #[.slice none 0 0, .int .u64 0, .int .u64 0, .int .i64 0, .int .i64 0] 36 (0, 0))) ∧ (w.heap.size ≤ s_.2) ∧ (w.heap.size ≤ s_.2) ∧ (Below w.heap.size w w')) ?_ ?_
                        rotate_left
                        · intro hJ2_11
                          refine join_ (σ := Nat × Nat) 4 #[true, true, false, true, true, true, true, true, true, false, true, true, false, false] (fun s_ => [(7, .pointer (some ⟨s_.1, 0, none⟩)), (8, .pointer (some ⟨s_.2, 0, none⟩))]) (fun s_ w' => (w'.heap[s_.1]? = some (.cells #[.slice none 0 0, .int .u64 0, .int .u64 0, .int .i64 0, .int .i64 0] 36 (0, 0))) ∧ (w'.heap[s_.2]? = some (.cells #[.slice none 0 0, .int .u64 0, .int .u64 0, .int .i64 0, .int .i64 0] 36 (0, 0))) ∧ (w.heap.size ≤ s_.1) ∧ (w.heap.size ≤ s_.1) ∧ (s_.2 ≠ s_.1) ∧ (s_.1 ≠ s_.2) ∧ (w.heap.size ≤ s_.2) ∧ (w.heap.size ≤ s_.2) ∧ (Below w.heap.size w w')) ?_ ?_
                          rotate_left
                          · intro hJ10_11
                            refine join_ (σ := Value) 5 #[true, true, true, true, true, true, true, true, true, false, false, false, false, false] (fun s_ => [(20, .agg #[s_, .int .u64 t237, .int .u64 t238, .int .i64 t239, .int .i64 t240])]) (fun s_ w' => (Kd.R k27 27 w' w.heap.size (fun _ => True) s_ t234) ∧ (Below w.heap.size w w')) ?_ ?_
                            rotate_left
                            · intro hJ2
                              refine join_ (σ := Nat) 5 #[true, true, false, true, true, true, true, true, true, false, true, false, false, false] (fun s_ => [(7, .pointer (some ⟨s_, 0, none⟩))]) (fun s_ w' => (w'.heap[s_]? = some (.cells #[.slice none 0 0, .int .u64 0, .int .u64 0, .int .i64 0, .int .i64 0] 36 (0, 0))) ∧ (w.heap.size ≤ s_) ∧ (w.heap.size ≤ s_) ∧ (Below w.heap.size w w')) ?_ ?_
                              rotate_left
                              · intro hJ10
                                refine join_ (σ := Nat) 5 #[true, true, false, true, true, true, true, true, true, false, false, true, false, false] (fun s_ => [(8, .pointer (some ⟨s_, 0, none⟩))]) (fun s_ w' => (w'.heap[s_]? = some (.cells #[.slice none 0 0, .int .u64 0, .int .u64 0, .int .i64 0, .int .i64 0] 36 (0, 0))) ∧ (w.heap.size ≤ s_) ∧ (w.heap.size ≤ s_) ∧ (Below w.heap.size w w')) ?_ ?_
                                rotate_left
                                · intro hJ11
                                  refine three_ (i := 2) (j := 10) (k := 11) (Ni := some 20) (Nj := some 7) (Nk := some 8) #[true, true, true, true, true, true, true, true, true, false, false, false, false, false] #[true, true, false, true, true, true, true, true, true, false, true, false, false, false] #[true, true, false, true, true, true, true, true, true, false, false, true, false, false] rfl rfl rfl rfl rfl rfl (three_of HT_.out (by kernel_rfl)) (by decide) (by decide) (by decide) (fun K hK => ?_) (fun K hK => ?_) (fun K hK => ?_)
                                  · skip
                                    refine goes_ Tryd.func12 (by kernel_rfl) rfl #[.int .u64 a0, .int .u64 0, .int .u64 a1] (by rfl) rfl rfl (by (try simp only [List.map_toArray, List.map_cons, List.map_nil]); first | done | rfl | (simp only [List.length_drop, List.length_take]; rfl)) ?_
                                    with_reducible refine (impl_ProofNodes.calls kj3 a0 0 a1 t234 t237 t238 t239 t240 _ ?side1 A8.out).mono ?_
                                    (case side1 => first | exact HG.out | exact Glob.drewN HG.out _ | exact Glob.below HG.out (by repeat (first | (with_reducible first | exact HB.out | apply below_alloc | apply pw_below_drewN | apply below_drew1) | exact HB.out)))
                                    rintro e w45 ⟨v235, rfl, ho0, hb⟩
                                    refine ⟨_, rfl, ?_⟩
                                    have n0_ := Aside0.mk (Kd.R_lower ho0 (below_size (by repeat (first | (with_reducible first | exact HB.out | apply below_alloc | apply pw_below_drewN | apply below_drew1) | exact HB.out))))
                                    have n1_ := Aside0.mk (below_step (by repeat (first | (with_reducible first | exact HB.out | apply below_alloc | apply pw_below_drewN | apply below_drew1) | exact HB.out)) hb)
                                    clear HB
                                    have HO236 := n0_
                                    have HB := n1_
                                    clear n0_ n1_
                                    (try clear hb)
                                    (try clear hb2)
                                    (try clear hk)
                                    (try clear hi)
                                    (try clear ho0)
                                    refine hK.out _ _ trivial (fun hHeld => ?_)
                                    clear hK K
                                    refine norm_ (a' := ?_) ?_ ?_
                                    rotate_left
                                    · show Act.put _ (some 20) _ = _
                                      simp only [Act.put, List.setIfInBounds_toArray, List.set_cons_zero, List.set_cons_succ, i64_w, i32_w]
                                      rfl
                                    exact norm_ (by first | (simp only [putAll, Act.put, List.setIfInBounds_toArray, List.set_cons_zero, List.set_cons_succ]; done) | (simp only [putAll, Act.put, List.setIfInBounds_toArray, List.set_cons_zero, List.set_cons_succ]; rfl)) (hJ2 (v235) _ ⟨(by (with_reducible repeat (first | apply Kd.R_alloc | apply Kd.R_drewN | apply Kd.R_drew)); exact HO236.out), (by repeat (first | (with_reducible first | exact HB.out | apply below_alloc | apply pw_below_drewN | apply below_drew1) | exact HB.out))⟩)
                                  · skip
                                    refine box_step ?hg (N := 7) ?hd (cs := #[.slice none 0 0, .int .u64 0, .int .u64 0, .int .i64 0, .int .i64 0]) (t := 36) ?hr ?_; (case hd => rfl); (case hg => rfl); (case hr => first | (go_simp; done) | (go_simp; rfl))
                                    intro gb248 hg w45 hbox hb
                                    have n0_ := Aside0.mk (below_step (by repeat (first | (with_reducible first | exact HB.out | apply below_alloc | apply pw_below_drewN | apply below_drew1) | exact HB.out)) hb)
                                    have n1_ := Aside0.mk (hbox)
                                    have n2_ := Aside0.mk ((by rw [hg]; exact (below_size (by repeat (first | (with_reducible first | exact HB.out | apply below_alloc | apply pw_below_drewN | apply below_drew1) | exact HB.out))) : w.heap.size ≤ gb248))
                                    have n3_ := Aside0.mk ((by rw [hg]; exact (below_size (by repeat (first | (with_reducible first | exact HB.out | apply below_alloc | apply pw_below_drewN | apply below_drew1) | exact HB.out))) : w.heap.size ≤ gb248))
                                    clear HB
                                    have HB := n0_
                                    have BK248 := n1_
                                    have GW248 := n2_
                                    have GE248 := n3_
                                    clear n0_ n1_ n2_ n3_
                                    clear hb hbox hg
                                    refine hK.out _ _ trivial (fun hHeld => ?_)
                                    clear hK K
                                    refine norm_ (a' := ?_) ?_ ?_
                                    rotate_left
                                    · show Act.put _ (some 7) _ = _
                                      simp only [Act.put, List.setIfInBounds_toArray, List.set_cons_zero, List.set_cons_succ, i64_w, i32_w]
                                      rfl
                                    exact norm_ (by first | (simp only [putAll, Act.put, List.setIfInBounds_toArray, List.set_cons_zero, List.set_cons_succ]; done) | (simp only [putAll, Act.put, List.setIfInBounds_toArray, List.set_cons_zero, List.set_cons_succ]; rfl)) (hJ10 (gb248) _ ⟨(by (with_reducible repeat (first | refine blk_drewN ?_ _ | refine blk_drew ?_ | refine blk_alloc ?_ _)); exact BK248.out), GW248.out, GE248.out, (by repeat (first | (with_reducible first | exact HB.out | apply below_alloc | apply pw_below_drewN | apply below_drew1 | refine below_set ?_ GE248.out) | exact HB.out))⟩)
                                  · skip
                                    refine box_step ?hg (N := 8) ?hd (cs := #[.slice none 0 0, .int .u64 0, .int .u64 0, .int .i64 0, .int .i64 0]) (t := 36) ?hr ?_; (case hd => rfl); (case hg => rfl); (case hr => first | (go_simp; done) | (go_simp; rfl))
                                    intro gb249 hg w45 hbox hb
                                    have n0_ := Aside0.mk (below_step (by repeat (first | (with_reducible first | exact HB.out | apply below_alloc | apply pw_below_drewN | apply below_drew1) | exact HB.out)) hb)
                                    have n1_ := Aside0.mk (hbox)
                                    have n2_ := Aside0.mk ((by rw [hg]; exact (below_size (by repeat (first | (with_reducible first | exact HB.out | apply below_alloc | apply pw_below_drewN | apply below_drew1) | exact HB.out))) : w.heap.size ≤ gb249))
                                    have n3_ := Aside0.mk ((by rw [hg]; exact (below_size (by repeat (first | (with_reducible first | exact HB.out | apply below_alloc | apply pw_below_drewN | apply below_drew1) | exact HB.out))) : w.heap.size ≤ gb249))
                                    clear HB
                                    have HB := n0_
                                    have BK249 := n1_
                                    have GW249 := n2_
                                    have GE249 := n3_
                                    clear n0_ n1_ n2_ n3_
                                    clear hb hbox hg
                                    refine hK.out _ _ trivial (fun hHeld => ?_)
                                    clear hK K
                                    refine norm_ (a' := ?_) ?_ ?_
                                    rotate_left
                                    · show Act.put _ (some 8) _ = _
                                      simp only [Act.put, List.setIfInBounds_toArray, List.set_cons_zero, List.set_cons_succ, i64_w, i32_w]
                                      rfl
                                    exact norm_ (by first | (simp only [putAll, Act.put, List.setIfInBounds_toArray, List.set_cons_zero, List.set_cons_succ]; done) | (simp only [putAll, Act.put, List.setIfInBounds_toArray, List.set_cons_zero, List.set_cons_succ]; rfl)) (hJ11 (gb249) _ ⟨(by (with_reducible repeat (first | refine blk_drewN ?_ _ | refine blk_drew ?_ | refine blk_alloc ?_ _)); exact BK249.out), GW249.out, GE249.out, (by repeat (first | (with_reducible first | exact HB.out | apply below_alloc | apply pw_below_drewN | apply below_drew1 | refine below_set ?_ GE249.out) | exact HB.out))⟩)
                                · skip
                                  rintro gb249 w46 ⟨h0_, h1_, h2_, h3_⟩
                                  have n0_ : Aside0 (w46.heap[gb249]? = some (.cells #[.slice none 0 0, .int .u64 0, .int .u64 0, .int .i64 0, .int .i64 0] 36 (0, 0))) := ⟨h0_⟩
                                  have n1_ : Aside0 (w.heap.size ≤ gb249) := ⟨h1_⟩
                                  have n2_ : Aside0 (w.heap.size ≤ gb249) := ⟨h2_⟩
                                  have n3_ : Aside0 (Below w.heap.size w w46) := ⟨h3_⟩
                                  clear HB
                                  clear h0_ h1_ h2_ h3_
                                  have BK249 := n0_
                                  have GW249 := n1_
                                  have GE249 := n2_
                                  have HB := n3_
                                  clear n0_ n1_ n2_ n3_
                                  have hHeld := trivial
                                  refine norm_ (a' := ?_) ?_ ?_
                                  rotate_left
                                  · simp only [putAll, Act.put, List.setIfInBounds_toArray, List.set_cons_zero, List.set_cons_succ]
                                    rfl
                                  refine two_ (i := 2) (j := 10) (Ni := some 20) (Nj := some 7) #[true, true, true, true, true, true, true, true, true, false, false, true, false, false] #[true, true, false, true, true, true, true, true, true, false, true, true, false, false] rfl rfl rfl rfl (two_of HT_.out (by kernel_rfl)) (by decide) (by decide) (fun K hK => ?_) (fun K hK => ?_)
                                  · skip
                                    refine goes_ Tryd.func12 (by kernel_rfl) rfl #[.int .u64 a0, .int .u64 0, .int .u64 a1] (by rfl) rfl rfl (by (try simp only [List.map_toArray, List.map_cons, List.map_nil]); first | done | rfl | (simp only [List.length_drop, List.length_take]; rfl)) ?_
                                    with_reducible refine (impl_ProofNodes.calls kj3 a0 0 a1 t234 t237 t238 t239 t240 _ ?side1 A8.out).mono ?_
                                    (case side1 => first | exact HG.out | exact Glob.drewN HG.out _ | exact Glob.below HG.out (by repeat (first | (with_reducible first | exact HB.out | apply below_alloc | apply pw_below_drewN | apply below_drew1 | refine below_set ?_ GE249.out) | exact HB.out)))
                                    rintro e w47 ⟨v235, rfl, ho0, hb⟩
                                    refine ⟨_, rfl, ?_⟩
                                    have n0_ := Aside0.mk (Kd.R_lower ho0 (below_size (by repeat (first | (with_reducible first | exact HB.out | apply below_alloc | apply pw_below_drewN | apply below_drew1 | refine below_set ?_ GE249.out) | exact HB.out))))
                                    have n1_ := Aside0.mk (blk_below (g := gb249) (o := .cells #[.slice none 0 0, .int .u64 0, .int .u64 0, .int .i64 0, .int .i64 0] 36 (0, 0)) (by (with_reducible repeat (first | refine blk_drewN ?_ _ | refine blk_drew ?_ | refine blk_alloc ?_ _)); exact BK249.out) hb)
                                    have n2_ := Aside0.mk (below_step (by repeat (first | (with_reducible first | exact HB.out | apply below_alloc | apply pw_below_drewN | apply below_drew1 | refine below_set ?_ GE249.out) | exact HB.out)) hb)
                                    clear BK249
                                    clear HB
                                    have HO236 := n0_
                                    have BK249 := n1_
                                    have HB := n2_
                                    clear n0_ n1_ n2_
                                    (try clear hb)
                                    (try clear hb2)
                                    (try clear hk)
                                    (try clear hi)
                                    (try clear ho0)
                                    refine hK.out _ _ trivial (fun hHeld => ?_)
                                    clear hK K
                                    refine norm_ (a' := ?_) ?_ ?_
                                    rotate_left
                                    · show Act.put _ (some 20) _ = _
                                      simp only [Act.put, List.setIfInBounds_toArray, List.set_cons_zero, List.set_cons_succ, i64_w, i32_w]
                                      rfl
                                    exact norm_ (by first | (simp only [putAll, Act.put, List.setIfInBounds_toArray, List.set_cons_zero, List.set_cons_succ]; done) | (simp only [putAll, Act.put, List.setIfInBounds_toArray, List.set_cons_zero, List.set_cons_succ]; rfl)) (hJ2_11 (v235, gb249) _ ⟨(by (with_reducible repeat (first | apply Kd.R_alloc | apply Kd.R_drewN | apply Kd.R_drew)); exact HO236.out), (by (with_reducible repeat (first | refine blk_drewN ?_ _ | refine blk_drew ?_ | refine blk_alloc ?_ _)); exact BK249.out), GW249.out, GE249.out, (by repeat (first | (with_reducible first | exact HB.out | apply below_alloc | apply pw_below_drewN | apply below_drew1 | refine below_set ?_ GE249.out) | exact HB.out))⟩)
                                  · skip
                                    refine box_step ?hg (N := 7) ?hd (cs := #[.slice none 0 0, .int .u64 0, .int .u64 0, .int .i64 0, .int .i64 0]) (t := 36) ?hr ?_; (case hd => rfl); (case hg => rfl); (case hr => first | (go_simp; done) | (go_simp; rfl))
                                    intro gb248 hg w47 hbox hb
                                    have n0_ := Aside0.mk (blk_below (g := gb249) (o := .cells #[.slice none 0 0, .int .u64 0, .int .u64 0, .int .i64 0, .int .i64 0] 36 (0, 0)) (by (with_reducible repeat (first | refine blk_drewN ?_ _ | refine blk_drew ?_ | refine blk_alloc ?_ _)); exact BK249.out) hb)
                                    have n1_ := Aside0.mk (below_step (by repeat (first | (with_reducible first | exact HB.out | apply below_alloc | apply pw_below_drewN | apply below_drew1 | refine below_set ?_ GE249.out) | exact HB.out)) hb)
                                    have n2_ := Aside0.mk (hbox)
                                    have n3_ := Aside0.mk ((by rw [hg]; exact (below_size (by repeat (first | (with_reducible first | exact HB.out | apply below_alloc | apply pw_below_drewN | apply below_drew1 | refine below_set ?_ GE249.out) | exact HB.out))) : w.heap.size ≤ gb248))
                                    have n4_ := Aside0.mk ((by rw [hg]; exact (below_size (by repeat (first | (with_reducible first | exact HB.out | apply below_alloc | apply pw_below_drewN | apply below_drew1 | refine below_set ?_ GE249.out) | exact HB.out))) : w.heap.size ≤ gb248))
                                    have n5_ := Aside0.mk ((by rw [hg]; exact Nat.ne_of_lt (blk_lt (g := gb249) (o := .cells #[.slice none 0 0, .int .u64 0, .int .u64 0, .int .i64 0, .int .i64 0] 36 (0, 0)) (by (with_reducible repeat (first | refine blk_drewN ?_ _ | refine blk_drew ?_ | refine blk_alloc ?_ _)); exact BK249.out)) : gb249 ≠ gb248))
                                    have n6_ := Aside0.mk ((by rw [hg]; exact Nat.ne_of_gt (blk_lt (g := gb249) (o := .cells #[.slice none 0 0, .int .u64 0, .int .u64 0, .int .i64 0, .int .i64 0] 36 (0, 0)) (by (with_reducible repeat (first | refine blk_drewN ?_ _ | refine blk_drew ?_ | refine blk_alloc ?_ _)); exact BK249.out)) : gb248 ≠ gb249))
                                    clear BK249
                                    clear HB
                                    have BK249 := n0_
                                    have HB := n1_
                                    have BK248 := n2_
                                    have GW248 := n3_
                                    have GE248 := n4_
                                    have NB249_248 := n5_
                                    have NB248_249 := n6_
                                    clear n0_ n1_ n2_ n3_ n4_ n5_ n6_
                                    clear hb hbox hg
                                    refine hK.out _ _ trivial (fun hHeld => ?_)
                                    clear hK K
                                    refine norm_ (a' := ?_) ?_ ?_
                                    rotate_left
                                    · show Act.put _ (some 7) _ = _
                                      simp only [Act.put, List.setIfInBounds_toArray, List.set_cons_zero, List.set_cons_succ, i64_w, i32_w]
                                      rfl
                                    exact norm_ (by first | (simp only [putAll, Act.put, List.setIfInBounds_toArray, List.set_cons_zero, List.set_cons_succ]; done) | (simp only [putAll, Act.put, List.setIfInBounds_toArray, List.set_cons_zero, List.set_cons_succ]; rfl)) (hJ10_11 (gb248, gb249) _ ⟨(by (with_reducible repeat (first | refine blk_drewN ?_ _ | refine blk_drew ?_ | refine blk_alloc ?_ _)); exact BK248.out), (by (with_reducible repeat (first | refine blk_drewN ?_ _ | refine blk_drew ?_ | refine blk_alloc ?_ _)); exact BK249.out), GW248.out, GE248.out, NB249_248.out, NB248_249.out, GW249.out, GE249.out, (by repeat (first | (with_reducible first | exact HB.out | apply below_alloc | apply pw_below_drewN | apply below_drew1 | refine below_set ?_ GE249.out | refine below_set ?_ GE248.out) | exact HB.out))⟩)
                              · skip
                                rintro gb248 w46 ⟨h0_, h1_, h2_, h3_⟩
                                have n0_ : Aside0 (w46.heap[gb248]? = some (.cells #[.slice none 0 0, .int .u64 0, .int .u64 0, .int .i64 0, .int .i64 0] 36 (0, 0))) := ⟨h0_⟩
                                have n1_ : Aside0 (w.heap.size ≤ gb248) := ⟨h1_⟩
                                have n2_ : Aside0 (w.heap.size ≤ gb248) := ⟨h2_⟩
                                have n3_ : Aside0 (Below w.heap.size w w46) := ⟨h3_⟩
                                clear HB
                                clear h0_ h1_ h2_ h3_
                                have BK248 := n0_
                                have GW248 := n1_
                                have GE248 := n2_
                                have HB := n3_
                                clear n0_ n1_ n2_ n3_
                                have hHeld := trivial
                                refine norm_ (a' := ?_) ?_ ?_
                                rotate_left
                                · simp only [putAll, Act.put, List.setIfInBounds_toArray, List.set_cons_zero, List.set_cons_succ]
                                  rfl
                                refine two_ (i := 2) (j := 11) (Ni := some 20) (Nj := some 8) #[true, true, true, true, true, true, true, true, true, false, true, false, false, false] #[true, true, false, true, true, true, true, true, true, false, true, true, false, false] rfl rfl rfl rfl (two_of HT_.out (by kernel_rfl)) (by decide) (by decide) (fun K hK => ?_) (fun K hK => ?_)
                                · skip
                                  refine goes_ Tryd.func12 (by kernel_rfl) rfl #[.int .u64 a0, .int .u64 0, .int .u64 a1] (by rfl) rfl rfl (by (try simp only [List.map_toArray, List.map_cons, List.map_nil]); first | done | rfl | (simp only [List.length_drop, List.length_take]; rfl)) ?_
                                  with_reducible refine (impl_ProofNodes.calls kj3 a0 0 a1 t234 t237 t238 t239 t240 _ ?side1 A8.out).mono ?_
                                  (case side1 => first | exact HG.out | exact Glob.drewN HG.out _ | exact Glob.below HG.out (by repeat (first | (with_reducible first | exact HB.out | apply below_alloc | apply pw_below_drewN | apply below_drew1 | refine below_set ?_ GE248.out) | exact HB.out)))
                                  rintro e w47 ⟨v235, rfl, ho0, hb⟩
                                  refine ⟨_, rfl, ?_⟩
                                  have n0_ := Aside0.mk (Kd.R_lower ho0 (below_size (by repeat (first | (with_reducible first | exact HB.out | apply below_alloc | apply pw_below_drewN | apply below_drew1 | refine below_set ?_ GE248.out) | exact HB.out))))
                                  have n1_ := Aside0.mk (blk_below (g := gb248) (o := .cells #[.slice none 0 0, .int .u64 0, .int .u64 0, .int .i64 0, .int .i64 0] 36 (0, 0)) (by (with_reducible repeat (first | refine blk_drewN ?_ _ | refine blk_drew ?_ | refine blk_alloc ?_ _)); exact BK248.out) hb)
                                  have n2_ := Aside0.mk (below_step (by repeat (first | (with_reducible first | exact HB.out | apply below_alloc | apply pw_below_drewN | apply below_drew1 | refine below_set ?_ GE248.out) | exact HB.out)) hb)
                                  clear BK248
                                  clear HB
                                  have HO236 := n0_
                                  have BK248 := n1_
                                  have HB := n2_
                                  clear n0_ n1_ n2_
                                  (try clear hb)
                                  (try clear hb2)
                                  (try clear hk)
                                  (try clear hi)
                                  (try clear ho0)
                                  refine hK.out _ _ trivial (fun hHeld => ?_)
                                  clear hK K
                                  refine norm_ (a' := ?_) ?_ ?_
                                  rotate_left
                                  · show Act.put _ (some 20) _ = _
                                    simp only [Act.put, List.setIfInBounds_toArray, List.set_cons_zero, List.set_cons_succ, i64_w, i32_w]
                                    rfl
                                  exact norm_ (by first | (simp only [putAll, Act.put, List.setIfInBounds_toArray, List.set_cons_zero, List.set_cons_succ]; done) | (simp only [putAll, Act.put, List.setIfInBounds_toArray, List.set_cons_zero, List.set_cons_succ]; rfl)) (hJ2_10 (v235, gb248) _ ⟨(by (with_reducible repeat (first | apply Kd.R_alloc | apply Kd.R_drewN | apply Kd.R_drew)); exact HO236.out), (by (with_reducible repeat (first | refine blk_drewN ?_ _ | refine blk_drew ?_ | refine blk_alloc ?_ _)); exact BK248.out), GW248.out, GE248.out, (by repeat (first | (with_reducible first | exact HB.out | apply below_alloc | apply pw_below_drewN | apply below_drew1 | refine below_set ?_ GE248.out) | exact HB.out))⟩)
                                · skip
                                  refine box_step ?hg (N := 8) ?hd (cs := #[.slice none 0 0, .int .u64 0, .int .u64 0, .int .i64 0, .int .i64 0]) (t := 36) ?hr ?_; (case hd => rfl); (case hg => rfl); (case hr => first | (go_simp; done) | (go_simp; rfl))
                                  intro gb249 hg w47 hbox hb
                                  have n0_ := Aside0.mk (blk_below (g := gb248) (o := .cells #[.slice none 0 0, .int .u64 0, .int .u64 0, .int .i64 0, .int .i64 0] 36 (0, 0)) (by (with_reducible repeat (first | refine blk_drewN ?_ _ | refine blk_drew ?_ | refine blk_alloc ?_ _)); exact BK248.out) hb)
                                  have n1_ := Aside0.mk (below_step (by repeat (first | (with_reducible first | exact HB.out | apply below_alloc | apply pw_below_drewN | apply below_drew1 | refine below_set ?_ GE248.out) | exact HB.out)) hb)
                                  have n2_ := Aside0.mk (hbox)
                                  have n3_ := Aside0.mk ((by rw [hg]; exact (below_size (by repeat (first | (with_reducible first | exact HB.out | apply below_alloc | apply pw_below_drewN | apply below_drew1 | refine below_set ?_ GE248.out) | exact HB.out))) : w.heap.size ≤ gb249))
                                  have n4_ := Aside0.mk ((by rw [hg]; exact (below_size (by repeat (first | (with_reducible first | exact HB.out | apply below_alloc | apply pw_below_drewN | apply below_drew1 | refine below_set ?_ GE248.out) | exact HB.out))) : w.heap.size ≤ gb249))
                                  have n5_ := Aside0.mk ((by rw [hg]; exact Nat.ne_of_lt (blk_lt (g := gb248) (o := .cells #[.slice none 0 0, .int .u64 0, .int .u64 0, .int .i64 0, .int .i64 0] 36 (0, 0)) (by (with_reducible repeat (first | refine blk_drewN ?_ _ | refine blk_drew ?_ | refine blk_alloc ?_ _)); exact BK248.out)) : gb248 ≠ gb249))
                                  have n6_ := Aside0.mk ((by rw [hg]; exact Nat.ne_of_gt (blk_lt (g := gb248) (o := .cells #[.slice none 0 0, .int .u64 0, .int .u64 0, .int .i64 0, .int .i64 0] 36 (0, 0)) (by (with_reducible repeat (first | refine blk_drewN ?_ _ | refine blk_drew ?_ | refine blk_alloc ?_ _)); exact BK248.out)) : gb249 ≠ gb248))
                                  clear BK248
                                  clear HB
                                  have BK248 := n0_
                                  have HB := n1_
                                  have BK249 := n2_
                                  have GW249 := n3_
                                  have GE249 := n4_
                                  have NB248_249 := n5_
                                  have NB249_248 := n6_
                                  clear n0_ n1_ n2_ n3_ n4_ n5_ n6_
                                  clear hb hbox hg
                                  refine hK.out _ _ trivial (fun hHeld => ?_)
                                  clear hK K
                                  refine norm_ (a' := ?_) ?_ ?_
                                  rotate_left
                                  · show Act.put _ (some 8) _ = _
                                    simp only [Act.put, List.setIfInBounds_toArray, List.set_cons_zero, List.set_cons_succ, i64_w, i32_w]
                                    rfl
                                  exact norm_ (by first | (simp only [putAll, Act.put, List.setIfInBounds_toArray, List.set_cons_zero, List.set_cons_succ]; done) | (simp only [putAll, Act.put, List.setIfInBounds_toArray, List.set_cons_zero, List.set_cons_succ]; rfl)) (hJ10_11 (gb248, gb249) _ ⟨(by (with_reducible repeat (first | refine blk_drewN ?_ _ | refine blk_drew ?_ | refine blk_alloc ?_ _)); exact BK248.out), (by (with_reducible repeat (first | refine blk_drewN ?_ _ | refine blk_drew ?_ | refine blk_alloc ?_ _)); exact BK249.out), GW248.out, GE248.out, NB249_248.out, NB248_249.out, GW249.out, GE249.out, (by repeat (first | (with_reducible first | exact HB.out | apply below_alloc | apply pw_below_drewN | apply below_drew1 | refine below_set ?_ GE248.out | refine below_set ?_ GE249.out) | exact HB.out))⟩)
                            · skip
                              rintro v235 w46 ⟨h0_, h1_⟩
                              have n0_ : Aside0 (Kd.R k27 27 w46 w.heap.size (fun _ => True) v235 t234) := ⟨h0_⟩
                              have n1_ : Aside0 (Below w.heap.size w w46) := ⟨h1_⟩
                              clear HB
                              clear h0_ h1_
                              have HO236 := n0_
                              have HB := n1_
                              clear n0_ n1_
                              have hHeld := trivial
                              refine norm_ (a' := ?_) ?_ ?_
                              rotate_left
                              · simp only [putAll, Act.put, List.setIfInBounds_toArray, List.set_cons_zero, List.set_cons_succ]
                                rfl
                              refine three_ (i := 9) (j := 10) (k := 11) (Ni := some 27) (Nj := some 7) (Nk := some 8) #[true, true, true, true, true, true, true, true, true, true, false, false, false, false] #[true, true, true, true, true, true, true, true, true, false, true, false, false, false] #[true, true, true, true, true, true, true, true, true, false, false, true, false, false] rfl rfl rfl rfl rfl rfl (three_of HT_.out (by kernel_rfl)) (by decide) (by decide) (by decide) (fun K hK => ?_) (fun K hK => ?_) (fun K hK => ?_)
                              · skip
                                refine goes_ Tryd.func12 (by kernel_rfl) rfl #[.int .u64 a0, .int .u64 (IntKind.u64.wrap (a2)), .int .u64 ji10] (by rfl) rfl rfl (by (try simp only [List.map_toArray, List.map_cons, List.map_nil]); first | done | (simp only [hji10]; rfl) | rfl | (simp only [List.length_drop, List.length_take]; rfl)) ?_
                                with_reducible refine (impl_ProofNodes.calls kj3 a0 (IntKind.u64.wrap (a2)) ji10 t241 t244 t245 t246 t247 _ ?side1 A11.out).mono ?_
                                (case side1 => first | exact HG.out | exact Glob.drewN HG.out _ | exact Glob.below HG.out (by repeat (first | (with_reducible first | exact HB.out | apply below_alloc | apply pw_below_drewN | apply below_drew1) | exact HB.out)))
                                rintro e w47 ⟨v242, rfl, ho0, hb⟩
                                refine ⟨_, rfl, ?_⟩
                                have n0_ := Aside0.mk (Kd.R_elder' (by (with_reducible repeat (first | apply Kd.R_alloc | apply Kd.R_drewN | apply Kd.R_drew)); exact HO236.out) (Kd.R_base ho0) hb)
                                have n1_ := Aside0.mk (Kd.R_lower (Kd.R_new' ho0 (Kd.R_lt (by (with_reducible repeat (first | apply Kd.R_alloc | apply Kd.R_drewN | apply Kd.R_drew)); exact HO236.out))) (below_size (by repeat (first | (with_reducible first | exact HB.out | apply below_alloc | apply pw_below_drewN | apply below_drew1) | exact HB.out))))
                                have n2_ := Aside0.mk (below_step (by repeat (first | (with_reducible first | exact HB.out | apply below_alloc | apply pw_below_drewN | apply below_drew1) | exact HB.out)) hb)
                                clear HO236
                                clear HB
                                have HO236 := n0_
                                have HO243 := n1_
                                have HB := n2_
                                clear n0_ n1_ n2_
                                (try clear hb)
                                (try clear hb2)
                                (try clear hk)
                                (try clear hi)
                                (try clear ho0)
                                refine hK.out _ _ trivial (fun hHeld => ?_)
                                clear hK K
                                refine norm_ (a' := ?_) ?_ ?_
                                rotate_left
                                · show Act.put _ (some 27) _ = _
                                  simp only [Act.put, List.setIfInBounds_toArray, List.set_cons_zero, List.set_cons_succ, i64_w, i32_w]
                                  rfl
                                exact norm_ (by first | (simp only [putAll, Act.put, List.setIfInBounds_toArray, List.set_cons_zero, List.set_cons_succ]; done) | (simp only [putAll, Act.put, List.setIfInBounds_toArray, List.set_cons_zero, List.set_cons_succ]; rfl)) (hJ2_9 (v235, v242) _ ⟨(by (with_reducible repeat (first | apply Kd.R_alloc | apply Kd.R_drewN | apply Kd.R_drew)); exact Kd.R_mono HO236.out (fun _ hk => hk.2)), (by (with_reducible repeat (first | apply Kd.R_alloc | apply Kd.R_drewN | apply Kd.R_drew)); exact Kd.R_mono HO243.out (fun _ hk => hk.2)), (by repeat (first | (with_reducible first | exact HB.out | apply below_alloc | apply pw_below_drewN | apply below_drew1) | exact HB.out))⟩)
                              · skip
                                refine box_step ?hg (N := 7) ?hd (cs := #[.slice none 0 0, .int .u64 0, .int .u64 0, .int .i64 0, .int .i64 0]) (t := 36) ?hr ?_; (case hd => rfl); (case hg => rfl); (case hr => first | (go_simp; done) | (go_simp; rfl))
                                intro gb248 hg w47 hbox hb
                                have n0_ := Aside0.mk (Kd.R_below (by (with_reducible repeat (first | apply Kd.R_alloc | apply Kd.R_drewN | apply Kd.R_drew)); exact HO236.out) hb)
                                have n1_ := Aside0.mk (below_step (by repeat (first | (with_reducible first | exact HB.out | apply below_alloc | apply pw_below_drewN | apply below_drew1) | exact HB.out)) hb)
                                have n2_ := Aside0.mk (hbox)
                                have n3_ := Aside0.mk ((by rw [hg]; exact (below_size (by repeat (first | (with_reducible first | exact HB.out | apply below_alloc | apply pw_below_drewN | apply below_drew1) | exact HB.out))) : w.heap.size ≤ gb248))
                                have n4_ := Aside0.mk ((by rw [hg]; exact (below_size (by repeat (first | (with_reducible first | exact HB.out | apply below_alloc | apply pw_below_drewN | apply below_drew1) | exact HB.out))) : w.heap.size ≤ gb248))
                                clear HO236
                                clear HB
                                have HO236 := n0_
                                have HB := n1_
                                have BK248 := n2_
                                have GW248 := n3_
                                have GE248 := n4_
                                clear n0_ n1_ n2_ n3_ n4_
                                clear hb hbox hg
                                refine hK.out _ _ trivial (fun hHeld => ?_)
                                clear hK K
                                refine norm_ (a' := ?_) ?_ ?_
                                rotate_left
                                · show Act.put _ (some 7) _ = _
                                  simp only [Act.put, List.setIfInBounds_toArray, List.set_cons_zero, List.set_cons_succ, i64_w, i32_w]
                                  rfl
                                exact norm_ (by first | (simp only [putAll, Act.put, List.setIfInBounds_toArray, List.set_cons_zero, List.set_cons_succ]; done) | (simp only [putAll, Act.put, List.setIfInBounds_toArray, List.set_cons_zero, List.set_cons_succ]; rfl)) (hJ2_10 (v235, gb248) _ ⟨(by (with_reducible repeat (first | apply Kd.R_alloc | apply Kd.R_drewN | apply Kd.R_drew)); exact HO236.out), (by (with_reducible repeat (first | refine blk_drewN ?_ _ | refine blk_drew ?_ | refine blk_alloc ?_ _)); exact BK248.out), GW248.out, GE248.out, (by repeat (first | (with_reducible first | exact HB.out | apply below_alloc | apply pw_below_drewN | apply below_drew1 | refine below_set ?_ GE248.out) | exact HB.out))⟩)
                              · skip
                                refine box_step ?hg (N := 8) ?hd (cs := #[.slice none 0 0, .int .u64 0, .int .u64 0, .int .i64 0, .int .i64 0]) (t := 36) ?hr ?_; (case hd => rfl); (case hg => rfl); (case hr => first | (go_simp; done) | (go_simp; rfl))
                                intro gb249 hg w47 hbox hb
                                have n0_ := Aside0.mk (Kd.R_below (by (with_reducible repeat (first | apply Kd.R_alloc | apply Kd.R_drewN | apply Kd.R_drew)); exact HO236.out) hb)
                                have n1_ := Aside0.mk (below_step (by repeat (first | (with_reducible first | exact HB.out | apply below_alloc | apply pw_below_drewN | apply below_drew1) | exact HB.out)) hb)
                                have n2_ := Aside0.mk (hbox)
                                have n3_ := Aside0.mk ((by rw [hg]; exact (below_size (by repeat (first | (with_reducible first | exact HB.out | apply below_alloc | apply pw_below_drewN | apply below_drew1) | exact HB.out))) : w.heap.size ≤ gb249))
                                have n4_ := Aside0.mk ((by rw [hg]; exact (below_size (by repeat (first | (with_reducible first | exact HB.out | apply below_alloc | apply pw_below_drewN | apply below_drew1) | exact HB.out))) : w.heap.size ≤ gb249))
                                clear HO236
                                clear HB
                                have HO236 := n0_
                                have HB := n1_
                                have BK249 := n2_
                                have GW249 := n3_
                                have GE249 := n4_
                                clear n0_ n1_ n2_ n3_ n4_
                                clear hb hbox hg
                                refine hK.out _ _ trivial (fun hHeld => ?_)
                                clear hK K
                                refine norm_ (a' := ?_) ?_ ?_
                                rotate_left
                                · show Act.put _ (some 8) _ = _
                                  simp only [Act.put, List.setIfInBounds_toArray, List.set_cons_zero, List.set_cons_succ, i64_w, i32_w]
                                  rfl
                                exact norm_ (by first | (simp only [putAll, Act.put, List.setIfInBounds_toArray, List.set_cons_zero, List.set_cons_succ]; done) | (simp only [putAll, Act.put, List.setIfInBounds_toArray, List.set_cons_zero, List.set_cons_succ]; rfl)) (hJ2_11 (v235, gb249) _ ⟨(by (with_reducible repeat (first | apply Kd.R_alloc | apply Kd.R_drewN | apply Kd.R_drew)); exact HO236.out), (by (with_reducible repeat (first | refine blk_drewN ?_ _ | refine blk_drew ?_ | refine blk_alloc ?_ _)); exact BK249.out), GW249.out, GE249.out, (by repeat (first | (with_reducible first | exact HB.out | apply below_alloc | apply pw_below_drewN | apply below_drew1 | refine below_set ?_ GE249.out) | exact HB.out))⟩)
                          · skip
                            rintro ⟨gb248, gb249⟩ w47 ⟨h0_, h1_, h2_, h3_, h4_, h5_, h6_, h7_, h8_⟩
                            have n0_ : Aside0 (w47.heap[gb248]? = some (.cells #[.slice none 0 0, .int .u64 0, .int .u64 0, .int .i64 0, .int .i64 0] 36 (0, 0))) := ⟨h0_⟩
                            have n1_ : Aside0 (w47.heap[gb249]? = some (.cells #[.slice none 0 0, .int .u64 0, .int .u64 0, .int .i64 0, .int .i64 0] 36 (0, 0))) := ⟨h1_⟩
                            have n2_ : Aside0 (w.heap.size ≤ gb248) := ⟨h2_⟩
                            have n3_ : Aside0 (w.heap.size ≤ gb248) := ⟨h3_⟩
                            have n4_ : Aside0 (gb249 ≠ gb248) := ⟨h4_⟩
                            have n5_ : Aside0 (gb248 ≠ gb249) := ⟨h5_⟩
                            have n6_ : Aside0 (w.heap.size ≤ gb249) := ⟨h6_⟩
                            have n7_ : Aside0 (w.heap.size ≤ gb249) := ⟨h7_⟩
                            have n8_ : Aside0 (Below w.heap.size w w47) := ⟨h8_⟩
                            clear HB
                            clear h0_ h1_ h2_ h3_ h4_ h5_ h6_ h7_ h8_
                            have BK248 := n0_
                            have BK249 := n1_
                            have GW248 := n2_
                            have GE248 := n3_
                            have NB249_248 := n4_
                            have NB248_249 := n5_
                            have GW249 := n6_
                            have GE249 := n7_
                            have HB := n8_
                            clear n0_ n1_ n2_ n3_ n4_ n5_ n6_ n7_ n8_
                            have hHeld := trivial
                            refine norm_ (a' := ?_) ?_ ?_
                            rotate_left
                            · simp only [putAll, Act.put, List.setIfInBounds_toArray, List.set_cons_zero, List.set_cons_succ]
                              rfl
                            refine one_ (i := 2) (N := some 20) #[true, true, true, true, true, true, true, true, true, false, true, true, false, false] rfl rfl (one_of HT_.out (by kernel_rfl)) (by decide) (fun K hK => ?_)
                            refine goes_ Tryd.func12 (by kernel_rfl) rfl #[.int .u64 a0, .int .u64 0, .int .u64 a1] (by rfl) rfl rfl (by (try simp only [List.map_toArray, List.map_cons, List.map_nil]); first | done | rfl | (simp only [List.length_drop, List.length_take]; rfl)) ?_
                            with_reducible refine (impl_ProofNodes.calls kj3 a0 0 a1 t234 t237 t238 t239 t240 _ ?side1 A8.out).mono ?_
                            (case side1 => first | exact HG.out | exact Glob.drewN HG.out _ | exact Glob.below HG.out (by repeat (first | (with_reducible first | exact HB.out | apply below_alloc | apply pw_below_drewN | apply below_drew1 | refine below_set ?_ GE248.out | refine below_set ?_ GE249.out) | exact HB.out)))
                            rintro e w48 ⟨v235, rfl, ho0, hb⟩
                            refine ⟨_, rfl, ?_⟩
                            have n0_ := Aside0.mk (Kd.R_lower ho0 (below_size (by repeat (first | (with_reducible first | exact HB.out | apply below_alloc | apply pw_below_drewN | apply below_drew1 | refine below_set ?_ GE248.out | refine below_set ?_ GE249.out) | exact HB.out))))
                            have n1_ := Aside0.mk (blk_below (g := gb248) (o := .cells #[.slice none 0 0, .int .u64 0, .int .u64 0, .int .i64 0, .int .i64 0] 36 (0, 0)) (by (with_reducible repeat (first | refine blk_drewN ?_ _ | refine blk_drew ?_ | refine blk_alloc ?_ _)); exact BK248.out) hb)
                            have n2_ := Aside0.mk (blk_below (g := gb249) (o := .cells #[.slice none 0 0, .int .u64 0, .int .u64 0, .int .i64 0, .int .i64 0] 36 (0, 0)) (by (with_reducible repeat (first | refine blk_drewN ?_ _ | refine blk_drew ?_ | refine blk_alloc ?_ _)); exact BK249.out) hb)
                            have n3_ := Aside0.mk (below_step (by repeat (first | (with_reducible first | exact HB.out | apply below_alloc | apply pw_below_drewN | apply below_drew1 | refine below_set ?_ GE248.out | refine below_set ?_ GE249.out) | exact HB.out)) hb)
                            clear BK248
                            clear BK249
                            clear HB
                            have HO236 := n0_
                            have BK248 := n1_
                            have BK249 := n2_
                            have HB := n3_
                            clear n0_ n1_ n2_ n3_
                            (try clear hb)
                            (try clear hb2)
                            (try clear hk)
                            (try clear hi)
                            (try clear ho0)
                            refine hK.out _ _ trivial (fun hHeld => ?_)
                            clear hK K
                            refine norm_ (a' := ?_) ?_ ?_
                            rotate_left
                            · show Act.put _ (some 20) _ = _
                              simp only [Act.put, List.setIfInBounds_toArray, List.set_cons_zero, List.set_cons_succ, i64_w, i32_w]
                              rfl
                            exact norm_ (by first | (simp only [putAll, Act.put, List.setIfInBounds_toArray, List.set_cons_zero, List.set_cons_succ]; done) | (simp only [putAll, Act.put, List.setIfInBounds_toArray, List.set_cons_zero, List.set_cons_succ]; rfl)) (hJ2_10_11 (v235, gb248, gb249) _ ⟨(by (with_reducible repeat (first | apply Kd.R_alloc | apply Kd.R_drewN | apply Kd.R_drew)); exact HO236.out), (by (with_reducible repeat (first | refine blk_drewN ?_ _ | refine blk_drew ?_ | refine blk_alloc ?_ _)); exact BK248.out), (by (with_reducible repeat (first | refine blk_drewN ?_ _ | refine blk_drew ?_ | refine blk_alloc ?_ _)); exact BK249.out), GW248.out, GE248.out, NB249_248.out, NB248_249.out, GW249.out, GE249.out, (by repeat (first | (with_reducible first | exact HB.out | apply below_alloc | apply pw_below_drewN | apply below_drew1 | refine below_set ?_ GE248.out | refine below_set ?_ GE249.out) | exact HB.out))⟩)
                        · skip
                          rintro ⟨v235, gb249⟩ w47 ⟨h0_, h1_, h2_, h3_, h4_⟩
                          have n0_ : Aside0 (Kd.R k27 27 w47 w.heap.size (fun _ => True) v235 t234) := ⟨h0_⟩
                          have n1_ : Aside0 (w47.heap[gb249]? = some (.cells #[.slice none 0 0, .int .u64 0, .int .u64 0, .int .i64 0, .int .i64 0] 36 (0, 0))) := ⟨h1_⟩
                          have n2_ : Aside0 (w.heap.size ≤ gb249) := ⟨h2_⟩
                          have n3_ : Aside0 (w.heap.size ≤ gb249) := ⟨h3_⟩
                          have n4_ : Aside0 (Below w.heap.size w w47) := ⟨h4_⟩
                          clear HB
                          clear h0_ h1_ h2_ h3_ h4_
                          have HO236 := n0_
                          have BK249 := n1_
                          have GW249 := n2_
                          have GE249 := n3_
                          have HB := n4_
                          clear n0_ n1_ n2_ n3_ n4_
                          have hHeld := trivial
                          refine norm_ (a' := ?_) ?_ ?_
                          rotate_left
                          · simp only [putAll, Act.put, List.setIfInBounds_toArray, List.set_cons_zero, List.set_cons_succ]
                            rfl
                          refine two_ (i := 9) (j := 10) (Ni := some 27) (Nj := some 7) #[true, true, true, true, true, true, true, true, true, true, false, true, false, false] #[true, true, true, true, true, true, true, true, true, false, true, true, false, false] rfl rfl rfl rfl (two_of HT_.out (by kernel_rfl)) (by decide) (by decide) (fun K hK => ?_) (fun K hK => ?_)
                          · skip
                            refine goes_ Tryd.func12 (by kernel_rfl) rfl #[.int .u64 a0, .int .u64 (IntKind.u64.wrap (a2)), .int .u64 ji10] (by rfl) rfl rfl (by (try simp only [List.map_toArray, List.map_cons, List.map_nil]); first | done | (simp only [hji10]; rfl) | rfl | (simp only [List.length_drop, List.length_take]; rfl)) ?_
                            with_reducible refine (impl_ProofNodes.calls kj3 a0 (IntKind.u64.wrap (a2)) ji10 t241 t244 t245 t246 t247 _ ?side1 A11.out).mono ?_
                            (case side1 => first | exact HG.out | exact Glob.drewN HG.out _ | exact Glob.below HG.out (by repeat (first | (with_reducible first | exact HB.out | apply below_alloc | apply pw_below_drewN | apply below_drew1 | refine below_set ?_ GE249.out) | exact HB.out)))
                            rintro e w48 ⟨v242, rfl, ho0, hb⟩
                            refine ⟨_, rfl, ?_⟩
                            have n0_ := Aside0.mk (Kd.R_elder' (by (with_reducible repeat (first | apply Kd.R_alloc | apply Kd.R_drewN | apply Kd.R_drew)); exact HO236.out) (Kd.R_base ho0) hb)
                            have n1_ := Aside0.mk (Kd.R_lower (Kd.R_new' ho0 (Kd.R_lt (by (with_reducible repeat (first | apply Kd.R_alloc | apply Kd.R_drewN | apply Kd.R_drew)); exact HO236.out))) (below_size (by repeat (first | (with_reducible first | exact HB.out | apply below_alloc | apply pw_below_drewN | apply below_drew1 | refine below_set ?_ GE249.out) | exact HB.out))))
                            have n2_ := Aside0.mk (blk_below (g := gb249) (o := .cells #[.slice none 0 0, .int .u64 0, .int .u64 0, .int .i64 0, .int .i64 0] 36 (0, 0)) (by (with_reducible repeat (first | refine blk_drewN ?_ _ | refine blk_drew ?_ | refine blk_alloc ?_ _)); exact BK249.out) hb)
                            have n3_ := Aside0.mk (below_step (by repeat (first | (with_reducible first | exact HB.out | apply below_alloc | apply pw_below_drewN | apply below_drew1 | refine below_set ?_ GE249.out) | exact HB.out)) hb)
                            clear HO236
                            clear BK249
                            clear HB
                            have HO236 := n0_
                            have HO243 := n1_
                            have BK249 := n2_
                            have HB := n3_
                            clear n0_ n1_ n2_ n3_
                            (try clear hb)
                            (try clear hb2)
                            (try clear hk)
                            (try clear hi)
                            (try clear ho0)
                            refine hK.out _ _ trivial (fun hHeld => ?_)
                            clear hK K
                            refine norm_ (a' := ?_) ?_ ?_
                            rotate_left
                            · show Act.put _ (some 27) _ = _
                              simp only [Act.put, List.setIfInBounds_toArray, List.set_cons_zero, List.set_cons_succ, i64_w, i32_w]
                              rfl
                            exact norm_ (by first | (simp only [putAll, Act.put, List.setIfInBounds_toArray, List.set_cons_zero, List.set_cons_succ]; done) | (simp only [putAll, Act.put, List.setIfInBounds_toArray, List.set_cons_zero, List.set_cons_succ]; rfl)) (hJ2_9_11 (v235, v242, gb249) _ ⟨(by (with_reducible repeat (first | apply Kd.R_alloc | apply Kd.R_drewN | apply Kd.R_drew)); exact Kd.R_mono HO236.out (fun _ hk => hk.2)), (by (with_reducible repeat (first | apply Kd.R_alloc | apply Kd.R_drewN | apply Kd.R_drew)); exact Kd.R_mono HO243.out (fun _ hk => hk.2)), (by (with_reducible repeat (first | refine blk_drewN ?_ _ | refine blk_drew ?_ | refine blk_alloc ?_ _)); exact BK249.out), GW249.out, GE249.out, (by repeat (first | (with_reducible first | exact HB.out | apply below_alloc | apply pw_below_drewN | apply below_drew1 | refine below_set ?_ GE249.out) | exact HB.out))⟩)
                          · skip
                            refine box_step ?hg (N := 7) ?hd (cs := #[.slice none 0 0, .int .u64 0, .int .u64 0, .int .i64 0, .int .i64 0]) (t := 36) ?hr ?_; (case hd => rfl); (case hg => rfl); (case hr => first | (go_simp; done) | (go_simp; rfl))
                            intro gb248 hg w48 hbox hb
                            have n0_ := Aside0.mk (Kd.R_below (by (with_reducible repeat (first | apply Kd.R_alloc | apply Kd.R_drewN | apply Kd.R_drew)); exact HO236.out) hb)
                            have n1_ := Aside0.mk (blk_below (g := gb249) (o := .cells #[.slice none 0 0, .int .u64 0, .int .u64 0, .int .i64 0, .int .i64 0] 36 (0, 0)) (by (with_reducible repeat (first | refine blk_drewN ?_ _ | refine blk_drew ?_ | refine blk_alloc ?_ _)); exact BK249.out) hb)
                            have n2_ := Aside0.mk (below_step (by repeat (first | (with_reducible first | exact HB.out | apply below_alloc | apply pw_below_drewN | apply below_drew1 | refine below_set ?_ GE249.out) | exact HB.out)) hb)
                            have n3_ := Aside0.mk (hbox)
                            have n4_ := Aside0.mk ((by rw [hg]; exact (below_size (by repeat (first | (with_reducible first | exact HB.out | apply below_alloc | apply pw_below_drewN | apply below_drew1 | refine below_set ?_ GE249.out) | exact HB.out))) : w.heap.size ≤ gb248))
                            have n5_ := Aside0.mk ((by rw [hg]; exact (below_size (by repeat (first | (with_reducible first | exact HB.out | apply below_alloc | apply pw_below_drewN | apply below_drew1 | refine below_set ?_ GE249.out) | exact HB.out))) : w.heap.size ≤ gb248))
                            have n6_ := Aside0.mk ((by rw [hg]; exact Nat.ne_of_lt (blk_lt (g := gb249) (o := .cells #[.slice none 0 0, .int .u64 0, .int .u64 0, .int .i64 0, .int .i64 0] 36 (0, 0)) (by (with_reducible repeat (first | refine blk_drewN ?_ _ | refine blk_drew ?_ | refine blk_alloc ?_ _)); exact BK249.out)) : gb249 ≠ gb248))
                            have n7_ := Aside0.mk ((by rw [hg]; exact Nat.ne_of_gt (blk_lt (g := gb249) (o := .cells #[.slice none 0 0, .int .u64 0, .int .u64 0, .int .i64 0, .int .i64 0] 36 (0, 0)) (by (with_reducible repeat (first | refine blk_drewN ?_ _ | refine blk_drew ?_ | refine blk_alloc ?_ _)); exact BK249.out)) : gb248 ≠ gb249))
                            clear HO236
                            clear BK249
                            clear HB
                            have HO236 := n0_
                            have BK249 := n1_
                            have HB := n2_
                            have BK248 := n3_
                            have GW248 := n4_
                            have GE248 := n5_
                            have NB249_248 := n6_
                            have NB248_249 := n7_
                            clear n0_ n1_ n2_ n3_ n4_ n5_ n6_ n7_
                            clear hb hbox hg
                            refine hK.out _ _ trivial (fun hHeld => ?_)
                            clear hK K
                            refine norm_ (a' := ?_) ?_ ?_
                            rotate_left
                            · show Act.put _ (some 7) _ = _
                              simp only [Act.put, List.setIfInBounds_toArray, List.set_cons_zero, List.set_cons_succ, i64_w, i32_w]
                              rfl
                            exact norm_ (by first | (simp only [putAll, Act.put, List.setIfInBounds_toArray, List.set_cons_zero, List.set_cons_succ]; done) | (simp only [putAll, Act.put, List.setIfInBounds_toArray, List.set_cons_zero, List.set_cons_succ]; rfl)) (hJ2_10_11 (v235, gb248, gb249) _ ⟨(by (with_reducible repeat (first | apply Kd.R_alloc | apply Kd.R_drewN | apply Kd.R_drew)); exact HO236.out), (by (with_reducible repeat (first | refine blk_drewN ?_ _ | refine blk_drew ?_ | refine blk_alloc ?_ _)); exact BK248.out), (by (with_reducible repeat (first | refine blk_drewN ?_ _ | refine blk_drew ?_ | refine blk_alloc ?_ _)); exact BK249.out), GW248.out, GE248.out, NB249_248.out, NB248_249.out, GW249.out, GE249.out, (by repeat (first | (with_reducible first | exact HB.out | apply below_alloc | apply pw_below_drewN | apply below_drew1 | refine below_set ?_ GE249.out | refine below_set ?_ GE248.out) | exact HB.out))⟩)
                      · skip
                        rintro ⟨v235, gb248⟩ w47 ⟨h0_, h1_, h2_, h3_, h4_⟩
                        have n0_ : Aside0 (Kd.R k27 27 w47 w.heap.size (fun _ => True) v235 t234) := ⟨h0_⟩
                        have n1_ : Aside0 (w47.heap[gb248]? = some (.cells #[.slice none 0 0, .int .u64 0, .int .u64 0, .int .i64 0, .int .i64 0] 36 (0, 0))) := ⟨h1_⟩
                        have n2_ : Aside0 (w.heap.size ≤ gb248) := ⟨h2_⟩
                        have n3_ : Aside0 (w.heap.size ≤ gb248) := ⟨h3_⟩
                        have n4_ : Aside0 (Below w.heap.size w w47) := ⟨h4_⟩
                        clear HB
                        clear h0_ h1_ h2_ h3_ h4_
                        have HO236 := n0_
                        have BK248 := n1_
                        have GW248 := n2_
                        have GE248 := n3_
                        have HB := n4_
                        clear n0_ n1_ n2_ n3_ n4_
                        have hHeld := trivial
                        refine norm_ (a' := ?_) ?_ ?_
                        rotate_left
                        · simp only [putAll, Act.put, List.setIfInBounds_toArray, List.set_cons_zero, List.set_cons_succ]
                          rfl
                        refine two_ (i := 9) (j := 11) (Ni := some 27) (Nj := some 8) #[true, true, true, true, true, true, true, true, true, true, true, false, false, false] #[true, true, true, true, true, true, true, true, true, false, true, true, false, false] rfl rfl rfl rfl (two_of HT_.out (by kernel_rfl)) (by decide) (by decide) (fun K hK => ?_) (fun K hK => ?_)
                        · skip
                          refine goes_ Tryd.func12 (by kernel_rfl) rfl #[.int .u64 a0, .int .u64 (IntKind.u64.wrap (a2)), .int .u64 ji10] (by rfl) rfl rfl (by (try simp only [List.map_toArray, List.map_cons, List.map_nil]); first | done | (simp only [hji10]; rfl) | rfl | (simp only [List.length_drop, List.length_take]; rfl)) ?_
                          with_reducible refine (impl_ProofNodes.calls kj3 a0 (IntKind.u64.wrap (a2)) ji10 t241 t244 t245 t246 t247 _ ?side1 A11.out).mono ?_
                          (case side1 => first | exact HG.out | exact Glob.drewN HG.out _ | exact Glob.below HG.out (by repeat (first | (with_reducible first | exact HB.out | apply below_alloc | apply pw_below_drewN | apply below_drew1 | refine below_set ?_ GE248.out) | exact HB.out)))
                          rintro e w48 ⟨v242, rfl, ho0, hb⟩
                          refine ⟨_, rfl, ?_⟩
                          have n0_ := Aside0.mk (Kd.R_elder' (by (with_reducible repeat (first | apply Kd.R_alloc | apply Kd.R_drewN | apply Kd.R_drew)); exact HO236.out) (Kd.R_base ho0) hb)
                          have n1_ := Aside0.mk (Kd.R_lower (Kd.R_new' ho0 (Kd.R_lt (by (with_reducible repeat (first | apply Kd.R_alloc | apply Kd.R_drewN | apply Kd.R_drew)); exact HO236.out))) (below_size (by repeat (first | (with_reducible first | exact HB.out | apply below_alloc | apply pw_below_drewN | apply below_drew1 | refine below_set ?_ GE248.out) | exact HB.out))))
                          have n2_ := Aside0.mk (blk_below (g := gb248) (o := .cells #[.slice none 0 0, .int .u64 0, .int .u64 0, .int .i64 0, .int .i64 0] 36 (0, 0)) (by (with_reducible repeat (first | refine blk_drewN ?_ _ | refine blk_drew ?_ | refine blk_alloc ?_ _)); exact BK248.out) hb)
                          have n3_ := Aside0.mk (below_step (by repeat (first | (with_reducible first | exact HB.out | apply below_alloc | apply pw_below_drewN | apply below_drew1 | refine below_set ?_ GE248.out) | exact HB.out)) hb)
                          clear HO236
                          clear BK248
                          clear HB
                          have HO236 := n0_
                          have HO243 := n1_
                          have BK248 := n2_
                          have HB := n3_
                          clear n0_ n1_ n2_ n3_
                          (try clear hb)
                          (try clear hb2)
                          (try clear hk)
                          (try clear hi)
                          (try clear ho0)
                          refine hK.out _ _ trivial (fun hHeld => ?_)
                          clear hK K
                          refine norm_ (a' := ?_) ?_ ?_
                          rotate_left
                          · show Act.put _ (some 27) _ = _
                            simp only [Act.put, List.setIfInBounds_toArray, List.set_cons_zero, List.set_cons_succ, i64_w, i32_w]
                            rfl
                          exact norm_ (by first | (simp only [putAll, Act.put, List.setIfInBounds_toArray, List.set_cons_zero, List.set_cons_succ]; done) | (simp only [putAll, Act.put, List.setIfInBounds_toArray, List.set_cons_zero, List.set_cons_succ]; rfl)) (hJ2_9_10 (v235, v242, gb248) _ ⟨(by (with_reducible repeat (first | apply Kd.R_alloc | apply Kd.R_drewN | apply Kd.R_drew)); exact Kd.R_mono HO236.out (fun _ hk => hk.2)), (by (with_reducible repeat (first | apply Kd.R_alloc | apply Kd.R_drewN | apply Kd.R_drew)); exact Kd.R_mono HO243.out (fun _ hk => hk.2)), (by (with_reducible repeat (first | refine blk_drewN ?_ _ | refine blk_drew ?_ | refine blk_alloc ?_ _)); exact BK248.out), GW248.out, GE248.out, (by repeat (first | (with_reducible first | exact HB.out | apply below_alloc | apply pw_below_drewN | apply below_drew1 | refine below_set ?_ GE248.out) | exact HB.out))⟩)
                        · skip
                          refine box_step ?hg (N := 8) ?hd (cs := #[.slice none 0 0, .int .u64 0, .int .u64 0, .int .i64 0, .int .i64 0]) (t := 36) ?hr ?_; (case hd => rfl); (case hg => rfl); (case hr => first | (go_simp; done) | (go_simp; rfl))
                          intro gb249 hg w48 hbox hb
                          have n0_ := Aside0.mk (Kd.R_below (by (with_reducible repeat (first | apply Kd.R_alloc | apply Kd.R_drewN | apply Kd.R_drew)); exact HO236.out) hb)
                          have n1_ := Aside0.mk (blk_below (g := gb248) (o := .cells #[.slice none 0 0, .int .u64 0, .int .u64 0, .int .i64 0, .int .i64 0] 36 (0, 0)) (by (with_reducible repeat (first | refine blk_drewN ?_ _ | refine blk_drew ?_ | refine blk_alloc ?_ _)); exact BK248.out) hb)
                          have n2_ := Aside0.mk (below_step (by repeat (first | (with_reducible first | exact HB.out | apply below_alloc | apply pw_below_drewN | apply below_drew1 | refine below_set ?_ GE248.out) | exact HB.out)) hb)
                          have n3_ := Aside0.mk (hbox)
                          have n4_ := Aside0.mk ((by rw [hg]; exact (below_size (by repeat (first | (with_reducible first | exact HB.out | apply below_alloc | apply pw_below_drewN | apply below_drew1 | refine below_set ?_ GE248.out) | exact HB.out))) : w.heap.size ≤ gb249))
                          have n5_ := Aside0.mk ((by rw [hg]; exact (below_size (by repeat (first | (with_reducible first | exact HB.out | apply below_alloc | apply pw_below_drewN | apply below_drew1 | refine below_set ?_ GE248.out) | exact HB.out))) : w.heap.size ≤ gb249))
                          have n6_ := Aside0.mk ((by rw [hg]; exact Nat.ne_of_lt (blk_lt (g := gb248) (o := .cells #[.slice none 0 0, .int .u64 0, .int .u64 0, .int .i64 0, .int .i64 0] 36 (0, 0)) (by (with_reducible repeat (first | refine blk_drewN ?_ _ | refine blk_drew ?_ | refine blk_alloc ?_ _)); exact BK248.out)) : gb248 ≠ gb249))
                          have n7_ := Aside0.mk ((by rw [hg]; exact Nat.ne_of_gt (blk_lt (g := gb248) (o := .cells #[.slice none 0 0, .int .u64 0, .int .u64 0, .int .i64 0, .int .i64 0] 36 (0, 0)) (by (with_reducible repeat (first | refine blk_drewN ?_ _ | refine blk_drew ?_ | refine blk_alloc ?_ _)); exact BK248.out)) : gb249 ≠ gb248))
                          clear HO236
                          clear BK248
                          clear HB
                          have HO236 := n0_
                          have BK248 := n1_
                          have HB := n2_
                          have BK249 := n3_
                          have GW249 := n4_
                          have GE249 := n5_
                          have NB248_249 := n6_
                          have NB249_248 := n7_
                          clear n0_ n1_ n2_ n3_ n4_ n5_ n6_ n7_
                          clear hb hbox hg
                          refine hK.out _ _ trivial (fun hHeld => ?_)
                          clear hK K
                          refine norm_ (a' := ?_) ?_ ?_
                          rotate_left
                          · show Act.put _ (some 8) _ = _
                            simp only [Act.put, List.setIfInBounds_toArray, List.set_cons_zero, List.set_cons_succ, i64_w, i32_w]
                            rfl
                          exact norm_ (by first | (simp only [putAll, Act.put, List.setIfInBounds_toArray, List.set_cons_zero, List.set_cons_succ]; done) | (simp only [putAll, Act.put, List.setIfInBounds_toArray, List.set_cons_zero, List.set_cons_succ]; rfl)) (hJ2_10_11 (v235, gb248, gb249) _ ⟨(by (with_reducible repeat (first | apply Kd.R_alloc | apply Kd.R_drewN | apply Kd.R_drew)); exact HO236.out), (by (with_reducible repeat (first | refine blk_drewN ?_ _ | refine blk_drew ?_ | refine blk_alloc ?_ _)); exact BK248.out), (by (with_reducible repeat (first | refine blk_drewN ?_ _ | refine blk_drew ?_ | refine blk_alloc ?_ _)); exact BK249.out), GW248.out, GE248.out, NB249_248.out, NB248_249.out, GW249.out, GE249.out, (by repeat (first | (with_reducible first | exact HB.out | apply below_alloc | apply pw_below_drewN | apply below_drew1 | refine below_set ?_ GE248.out | refine below_set ?_ GE249.out) | exact HB.out))⟩)
                    · skip
                      rintro ⟨v235, v242⟩ w47 ⟨h0_, h1_, h2_⟩
                      have n0_ : Aside0 (Kd.R k27 27 w47 w.heap.size (fun k_ => some k_ ≠ (v242 : Value).ownBlock) v235 t234) := ⟨h0_⟩
                      have n1_ : Aside0 (Kd.R k27 27 w47 w.heap.size (fun k_ => some k_ ≠ (v235 : Value).ownBlock) v242 t241) := ⟨h1_⟩
                      have n2_ : Aside0 (Below w.heap.size w w47) := ⟨h2_⟩
                      clear HB
                      clear h0_ h1_ h2_
                      have HO236 := n0_
                      have HO243 := n1_
                      have HB := n2_
                      clear n0_ n1_ n2_
                      have hHeld := trivial
                      refine norm_ (a' := ?_) ?_ ?_
                      rotate_left
                      · simp only [putAll, Act.put, List.setIfInBounds_toArray, List.set_cons_zero, List.set_cons_succ]
                        rfl
                      refine two_ (i := 10) (j := 11) (Ni := some 7) (Nj := some 8) #[true, true, true, true, true, true, true, true, true, true, true, false, false, false] #[true, true, true, true, true, true, true, true, true, true, false, true, false, false] rfl rfl rfl rfl (two_of HT_.out (by kernel_rfl)) (by decide) (by decide) (fun K hK => ?_) (fun K hK => ?_)
                      · skip
                        refine box_step ?hg (N := 7) ?hd (cs := #[.slice none 0 0, .int .u64 0, .int .u64 0, .int .i64 0, .int .i64 0]) (t := 36) ?hr ?_; (case hd => rfl); (case hg => rfl); (case hr => first | (go_simp; done) | (go_simp; rfl))
                        intro gb248 hg w48 hbox hb
                        have n0_ := Aside0.mk (Kd.R_below (by (with_reducible repeat (first | apply Kd.R_alloc | apply Kd.R_drewN | apply Kd.R_drew)); exact HO236.out) hb)
                        have n1_ := Aside0.mk (Kd.R_below (by (with_reducible repeat (first | apply Kd.R_alloc | apply Kd.R_drewN | apply Kd.R_drew)); exact HO243.out) hb)
                        have n2_ := Aside0.mk (below_step (by repeat (first | (with_reducible first | exact HB.out | apply below_alloc | apply pw_below_drewN | apply below_drew1) | exact HB.out)) hb)
                        have n3_ := Aside0.mk (hbox)
                        have n4_ := Aside0.mk ((by rw [hg]; exact (below_size (by repeat (first | (with_reducible first | exact HB.out | apply below_alloc | apply pw_below_drewN | apply below_drew1) | exact HB.out))) : w.heap.size ≤ gb248))
                        have n5_ := Aside0.mk ((by rw [hg]; exact (below_size (by repeat (first | (with_reducible first | exact HB.out | apply below_alloc | apply pw_below_drewN | apply below_drew1) | exact HB.out))) : w.heap.size ≤ gb248))
                        clear HO236
                        clear HO243
                        clear HB
                        have HO236 := n0_
                        have HO243 := n1_
                        have HB := n2_
                        have BK248 := n3_
                        have GW248 := n4_
                        have GE248 := n5_
                        clear n0_ n1_ n2_ n3_ n4_ n5_
                        clear hb hbox hg
                        refine hK.out _ _ trivial (fun hHeld => ?_)
                        clear hK K
                        refine norm_ (a' := ?_) ?_ ?_
                        rotate_left
                        · show Act.put _ (some 7) _ = _
                          simp only [Act.put, List.setIfInBounds_toArray, List.set_cons_zero, List.set_cons_succ, i64_w, i32_w]
                          rfl
                        exact norm_ (by first | (simp only [putAll, Act.put, List.setIfInBounds_toArray, List.set_cons_zero, List.set_cons_succ]; done) | (simp only [putAll, Act.put, List.setIfInBounds_toArray, List.set_cons_zero, List.set_cons_succ]; rfl)) (hJ2_9_10 (v235, v242, gb248) _ ⟨(by (with_reducible repeat (first | apply Kd.R_alloc | apply Kd.R_drewN | apply Kd.R_drew)); exact HO236.out), (by (with_reducible repeat (first | apply Kd.R_alloc | apply Kd.R_drewN | apply Kd.R_drew)); exact HO243.out), (by (with_reducible repeat (first | refine blk_drewN ?_ _ | refine blk_drew ?_ | refine blk_alloc ?_ _)); exact BK248.out), GW248.out, GE248.out, (by repeat (first | (with_reducible first | exact HB.out | apply below_alloc | apply pw_below_drewN | apply below_drew1 | refine below_set ?_ GE248.out) | exact HB.out))⟩)
                      · skip
                        refine box_step ?hg (N := 8) ?hd (cs := #[.slice none 0 0, .int .u64 0, .int .u64 0, .int .i64 0, .int .i64 0]) (t := 36) ?hr ?_; (case hd => rfl); (case hg => rfl); (case hr => first | (go_simp; done) | (go_simp; rfl))
                        intro gb249 hg w48 hbox hb
                        have n0_ := Aside0.mk (Kd.R_below (by (with_reducible repeat (first | apply Kd.R_alloc | apply Kd.R_drewN | apply Kd.R_drew)); exact HO236.out) hb)
                        have n1_ := Aside0.mk (Kd.R_below (by (with_reducible repeat (first | apply Kd.R_alloc | apply Kd.R_drewN | apply Kd.R_drew)); exact HO243.out) hb)
                        have n2_ := Aside0.mk (below_step (by repeat (first | (with_reducible first | exact HB.out | apply below_alloc | apply pw_below_drewN | apply below_drew1) | exact HB.out)) hb)
                        have n3_ := Aside0.mk (hbox)
                        have n4_ := Aside0.mk ((by rw [hg]; exact (below_size (by repeat (first | (with_reducible first | exact HB.out | apply below_alloc | apply pw_below_drewN | apply below_drew1) | exact HB.out))) : w.heap.size ≤ gb249))
                        have n5_ := Aside0.mk ((by rw [hg]; exact (below_size (by repeat (first | (with_reducible first | exact HB.out | apply below_alloc | apply pw_below_drewN | apply below_drew1) | exact HB.out))) : w.heap.size ≤ gb249))
                        clear HO236
                        clear HO243
                        clear HB
                        have HO236 := n0_
                        have HO243 := n1_
                        have HB := n2_
                        have BK249 := n3_
                        have GW249 := n4_
                        have GE249 := n5_
                        clear n0_ n1_ n2_ n3_ n4_ n5_
                        clear hb hbox hg
                        refine hK.out _ _ trivial (fun hHeld => ?_)
                        clear hK K
                        refine norm_ (a' := ?_) ?_ ?_
                        rotate_left
                        · show Act.put _ (some 8) _ = _
                          simp only [Act.put, List.setIfInBounds_toArray, List.set_cons_zero, List.set_cons_succ, i64_w, i32_w]
                          rfl
                        exact norm_ (by first | (simp only [putAll, Act.put, List.setIfInBounds_toArray, List.set_cons_zero, List.set_cons_succ]; done) | (simp only [putAll, Act.put, List.setIfInBounds_toArray, List.set_cons_zero, List.set_cons_succ]; rfl)) (hJ2_9_11 (v235, v242, gb249) _ ⟨(by (with_reducible repeat (first | apply Kd.R_alloc | apply Kd.R_drewN | apply Kd.R_drew)); exact HO236.out), (by (with_reducible repeat (first | apply Kd.R_alloc | apply Kd.R_drewN | apply Kd.R_drew)); exact HO243.out), (by (with_reducible repeat (first | refine blk_drewN ?_ _ | refine blk_drew ?_ | refine blk_alloc ?_ _)); exact BK249.out), GW249.out, GE249.out, (by repeat (first | (with_reducible first | exact HB.out | apply below_alloc | apply pw_below_drewN | apply below_drew1 | refine below_set ?_ GE249.out) | exact HB.out))⟩)
                  · skip
                    rintro ⟨v235, gb248, gb249⟩ w48 ⟨h0_, h1_, h2_, h3_, h4_, h5_, h6_, h7_, h8_, h9_⟩
                    have n0_ : Aside0 (Kd.R k27 27 w48 w.heap.size (fun _ => True) v235 t234) := ⟨h0_⟩
                    have n1_ : Aside0 (w48.heap[gb248]? = some (.cells #[.slice none 0 0, .int .u64 0, .int .u64 0, .int .i64 0, .int .i64 0] 36 (0, 0))) := ⟨h1_⟩
                    have n2_ : Aside0 (w48.heap[gb249]? = some (.cells #[.slice none 0 0, .int .u64 0, .int .u64 0, .int .i64 0, .int .i64 0] 36 (0, 0))) := ⟨h2_⟩
                    have n3_ : Aside0 (w.heap.size ≤ gb248) := ⟨h3_⟩
                    have n4_ : Aside0 (w.heap.size ≤ gb248) := ⟨h4_⟩
                    have n5_ : Aside0 (gb249 ≠ gb248) := ⟨h5_⟩
                    have n6_ : Aside0 (gb248 ≠ gb249) := ⟨h6_⟩
                    have n7_ : Aside0 (w.heap.size ≤ gb249) := ⟨h7_⟩
                    have n8_ : Aside0 (w.heap.size ≤ gb249) := ⟨h8_⟩
                    have n9_ : Aside0 (Below w.heap.size w w48) := ⟨h9_⟩
                    clear HB
                    clear h0_ h1_ h2_ h3_ h4_ h5_ h6_ h7_ h8_ h9_
                    have HO236 := n0_
                    have BK248 := n1_
                    have BK249 := n2_
                    have GW248 := n3_
                    have GE248 := n4_
                    have NB249_248 := n5_
                    have NB248_249 := n6_
                    have GW249 := n7_
                    have GE249 := n8_
                    have HB := n9_
                    clear n0_ n1_ n2_ n3_ n4_ n5_ n6_ n7_ n8_ n9_
                    have hHeld := trivial
                    refine norm_ (a' := ?_) ?_ ?_
                    rotate_left
                    · simp only [putAll, Act.put, List.setIfInBounds_toArray, List.set_cons_zero, List.set_cons_succ]
                      rfl
                    refine one_ (i := 9) (N := some 27) #[true, true, true, true, true, true, true, true, true, true, true, true, false, false] rfl rfl (one_of HT_.out (by kernel_rfl)) (by decide) (fun K hK => ?_)
                    refine goes_ Tryd.func12 (by kernel_rfl) rfl #[.int .u64 a0, .int .u64 (IntKind.u64.wrap (a2)), .int .u64 ji10] (by rfl) rfl rfl (by (try simp only [List.map_toArray, List.map_cons, List.map_nil]); first | done | (simp only [hji10]; rfl) | rfl | (simp only [List.length_drop, List.length_take]; rfl)) ?_
                    with_reducible refine (impl_ProofNodes.calls kj3 a0 (IntKind.u64.wrap (a2)) ji10 t241 t244 t245 t246 t247 _ ?side1 A11.out).mono ?_
                    (case side1 => first | exact HG.out | exact Glob.drewN HG.out _ | exact Glob.below HG.out (by repeat (first | (with_reducible first | exact HB.out | apply below_alloc | apply pw_below_drewN | apply below_drew1 | refine below_set ?_ GE248.out | refine below_set ?_ GE249.out) | exact HB.out)))
                    rintro e w49 ⟨v242, rfl, ho0, hb⟩
                    refine ⟨_, rfl, ?_⟩
                    have n0_ := Aside0.mk (Kd.R_elder' (by (with_reducible repeat (first | apply Kd.R_alloc | apply Kd.R_drewN | apply Kd.R_drew)); exact HO236.out) (Kd.R_base ho0) hb)
                    have n1_ := Aside0.mk (Kd.R_lower (Kd.R_new' ho0 (Kd.R_lt (by (with_reducible repeat (first | apply Kd.R_alloc | apply Kd.R_drewN | apply Kd.R_drew)); exact HO236.out))) (below_size (by repeat (first | (with_reducible first | exact HB.out | apply below_alloc | apply pw_below_drewN | apply below_drew1 | refine below_set ?_ GE248.out | refine below_set ?_ GE249.out) | exact HB.out))))
                    have n2_ := Aside0.mk (blk_below (g := gb248) (o := .cells #[.slice none 0 0, .int .u64 0, .int .u64 0, .int .i64 0, .int .i64 0] 36 (0, 0)) (by (with_reducible repeat (first | refine blk_drewN ?_ _ | refine blk_drew ?_ | refine blk_alloc ?_ _)); exact BK248.out) hb)
                    have n3_ := Aside0.mk (blk_below (g := gb249) (o := .cells #[.slice none 0 0, .int .u64 0, .int .u64 0, .int .i64 0, .int .i64 0] 36 (0, 0)) (by (with_reducible repeat (first | refine blk_drewN ?_ _ | refine blk_drew ?_ | refine blk_alloc ?_ _)); exact BK249.out) hb)
                    have n4_ := Aside0.mk (below_step (by repeat (first | (with_reducible first | exact HB.out | apply below_alloc | apply pw_below_drewN | apply below_drew1 | refine below_set ?_ GE248.out | refine below_set ?_ GE249.out) | exact HB.out)) hb)
                    clear HO236
                    clear BK248
                    clear BK249
                    clear HB
                    have HO236 := n0_
                    have HO243 := n1_
                    have BK248 := n2_
                    have BK249 := n3_
                    have HB := n4_
                    clear n0_ n1_ n2_ n3_ n4_
                    (try clear hb)
                    (try clear hb2)
                    (try clear hk)
                    (try clear hi)
                    (try clear ho0)
                    refine hK.out _ _ trivial (fun hHeld => ?_)
                    clear hK K
                    refine norm_ (a' := ?_) ?_ ?_
                    rotate_left
                    · show Act.put _ (some 27) _ = _
                      simp only [Act.put, List.setIfInBounds_toArray, List.set_cons_zero, List.set_cons_succ, i64_w, i32_w]
                      rfl
                    exact norm_ (by first | (simp only [putAll, Act.put, List.setIfInBounds_toArray, List.set_cons_zero, List.set_cons_succ]; done) | (simp only [putAll, Act.put, List.setIfInBounds_toArray, List.set_cons_zero, List.set_cons_succ]; rfl)) (hJ2_9_10_11 (v235, v242, gb248, gb249) _ ⟨(by (with_reducible repeat (first | apply Kd.R_alloc | apply Kd.R_drewN | apply Kd.R_drew)); exact Kd.R_mono HO236.out (fun _ hk => hk.2)), (by (with_reducible repeat (first | apply Kd.R_alloc | apply Kd.R_drewN | apply Kd.R_drew)); exact Kd.R_mono HO243.out (fun _ hk => hk.2)), (by (with_reducible repeat (first | refine blk_drewN ?_ _ | refine blk_drew ?_ | refine blk_alloc ?_ _)); exact BK248.out), (by (with_reducible repeat (first | refine blk_drewN ?_ _ | refine blk_drew ?_ | refine blk_alloc ?_ _)); exact BK249.out), GW248.out, GE248.out, NB249_248.out, NB248_249.out, GW249.out, GE249.out, (by repeat (first | (with_reducible first | exact HB.out | apply below_alloc | apply pw_below_drewN | apply below_drew1 | refine below_set ?_ GE248.out | refine below_set ?_ GE249.out) | exact HB.out))⟩)
                · skip
                  rintro ⟨v235, v242, gb249⟩ w48 ⟨h0_, h1_, h2_, h3_, h4_, h5_⟩
                  have n0_ : Aside0 (Kd.R k27 27 w48 w.heap.size (fun k_ => some k_ ≠ (v242 : Value).ownBlock) v235 t234) := ⟨h0_⟩
                  have n1_ : Aside0 (Kd.R k27 27 w48 w.heap.size (fun k_ => some k_ ≠ (v235 : Value).ownBlock) v242 t241) := ⟨h1_⟩
                  have n2_ : Aside0 (w48.heap[gb249]? = some (.cells #[.slice none 0 0, .int .u64 0, .int .u64 0, .int .i64 0, .int .i64 0] 36 (0, 0))) := ⟨h2_⟩
                  have n3_ : Aside0 (w.heap.size ≤ gb249) := ⟨h3_⟩
                  have n4_ : Aside0 (w.heap.size ≤ gb249) := ⟨h4_⟩
                  have n5_ : Aside0 (Below w.heap.size w w48) := ⟨h5_⟩
                  clear HB
                  clear h0_ h1_ h2_ h3_ h4_ h5_
                  have HO236 := n0_
                  have HO243 := n1_
                  have BK249 := n2_
                  have GW249 := n3_
                  have GE249 := n4_
                  have HB := n5_
                  clear n0_ n1_ n2_ n3_ n4_ n5_
                  have hHeld := trivial
                  refine norm_ (a' := ?_) ?_ ?_
                  rotate_left
                  · simp only [putAll, Act.put, List.setIfInBounds_toArray, List.set_cons_zero, List.set_cons_succ]
                    rfl
                  refine one_ (i := 10) (N := some 7) #[true, true, true, true, true, true, true, true, true, true, true, true, false, false] rfl rfl (one_of HT_.out (by kernel_rfl)) (by decide) (fun K hK => ?_)
                  refine box_step ?hg (N := 7) ?hd (cs := #[.slice none 0 0, .int .u64 0, .int .u64 0, .int .i64 0, .int .i64 0]) (t := 36) ?hr ?_; (case hd => rfl); (case hg => rfl); (case hr => first | (go_simp; done) | (go_simp; rfl))
                  intro gb248 hg w49 hbox hb
                  have n0_ := Aside0.mk (Kd.R_below (by (with_reducible repeat (first | apply Kd.R_alloc | apply Kd.R_drewN | apply Kd.R_drew)); exact HO236.out) hb)
                  have n1_ := Aside0.mk (Kd.R_below (by (with_reducible repeat (first | apply Kd.R_alloc | apply Kd.R_drewN | apply Kd.R_drew)); exact HO243.out) hb)
                  have n2_ := Aside0.mk (blk_below (g := gb249) (o := .cells #[.slice none 0 0, .int .u64 0, .int .u64 0, .int .i64 0, .int .i64 0] 36 (0, 0)) (by (with_reducible repeat (first | refine blk_drewN ?_ _ | refine blk_drew ?_ | refine blk_alloc ?_ _)); exact BK249.out) hb)
                  have n3_ := Aside0.mk (below_step (by repeat (first | (with_reducible first | exact HB.out | apply below_alloc | apply pw_below_drewN | apply below_drew1 | refine below_set ?_ GE249.out) | exact HB.out)) hb)
                  have n4_ := Aside0.mk (hbox)
                  have n5_ := Aside0.mk ((by rw [hg]; exact (below_size (by repeat (first | (with_reducible first | exact HB.out | apply below_alloc | apply pw_below_drewN | apply below_drew1 | refine below_set ?_ GE249.out) | exact HB.out))) : w.heap.size ≤ gb248))
                  have n6_ := Aside0.mk ((by rw [hg]; exact (below_size (by repeat (first | (with_reducible first | exact HB.out | apply below_alloc | apply pw_below_drewN | apply below_drew1 | refine below_set ?_ GE249.out) | exact HB.out))) : w.heap.size ≤ gb248))
                  have n7_ := Aside0.mk ((by rw [hg]; exact Nat.ne_of_lt (blk_lt (g := gb249) (o := .cells #[.slice none 0 0, .int .u64 0, .int .u64 0, .int .i64 0, .int .i64 0] 36 (0, 0)) (by (with_reducible repeat (first | refine blk_drewN ?_ _ | refine blk_drew ?_ | refine blk_alloc ?_ _)); exact BK249.out)) : gb249 ≠ gb248))
                  have n8_ := Aside0.mk ((by rw [hg]; exact Nat.ne_of_gt (blk_lt (g := gb249) (o := .cells #[.slice none 0 0, .int .u64 0, .int .u64 0, .int .i64 0, .int .i64 0] 36 (0, 0)) (by (with_reducible repeat (first | refine blk_drewN ?_ _ | refine blk_drew ?_ | refine blk_alloc ?_ _)); exact BK249.out)) : gb248 ≠ gb249))
                  clear HO236
                  clear HO243
                  clear BK249
                  clear HB
                  have HO236 := n0_
                  have HO243 := n1_
                  have BK249 := n2_
                  have HB := n3_
                  have BK248 := n4_
                  have GW248 := n5_
                  have GE248 := n6_
                  have NB249_248 := n7_
                  have NB248_249 := n8_
                  clear n0_ n1_ n2_ n3_ n4_ n5_ n6_ n7_ n8_
                  clear hb hbox hg
                  refine hK.out _ _ trivial (fun hHeld => ?_)
                  clear hK K
                  refine norm_ (a' := ?_) ?_ ?_
                  rotate_left
                  · show Act.put _ (some 7) _ = _
                    simp only [Act.put, List.setIfInBounds_toArray, List.set_cons_zero, List.set_cons_succ, i64_w, i32_w]
                    rfl
                  exact norm_ (by first | (simp only [putAll, Act.put, List.setIfInBounds_toArray, List.set_cons_zero, List.set_cons_succ]; done) | (simp only [putAll, Act.put, List.setIfInBounds_toArray, List.set_cons_zero, List.set_cons_succ]; rfl)) (hJ2_9_10_11 (v235, v242, gb248, gb249) _ ⟨(by (with_reducible repeat (first | apply Kd.R_alloc | apply Kd.R_drewN | apply Kd.R_drew)); exact HO236.out), (by (with_reducible repeat (first | apply Kd.R_alloc | apply Kd.R_drewN | apply Kd.R_drew)); exact HO243.out), (by (with_reducible repeat (first | refine blk_drewN ?_ _ | refine blk_drew ?_ | refine blk_alloc ?_ _)); exact BK248.out), (by (with_reducible repeat (first | refine blk_drewN ?_ _ | refine blk_drew ?_ | refine blk_alloc ?_ _)); exact BK249.out), GW248.out, GE248.out, NB249_248.out, NB248_249.out, GW249.out, GE249.out, (by repeat (first | (with_reducible first | exact HB.out | apply below_alloc | apply pw_below_drewN | apply below_drew1 | refine below_set ?_ GE249.out | refine below_set ?_ GE248.out) | exact HB.out))⟩)
              · skip
                rintro ⟨v235, v242, gb248⟩ w48 ⟨h0_, h1_, h2_, h3_, h4_, h5_⟩
                have n0_ : Aside0 (Kd.R k27 27 w48 w.heap.size (fun k_ => some k_ ≠ (v242 : Value).ownBlock) v235 t234) := ⟨h0_⟩
                have n1_ : Aside0 (Kd.R k27 27 w48 w.heap.size (fun k_ => some k_ ≠ (v235 : Value).ownBlock) v242 t241) := ⟨h1_⟩
                have n2_ : Aside0 (w48.heap[gb248]? = some (.cells #[.slice none 0 0, .int .u64 0, .int .u64 0, .int .i64 0, .int .i64 0] 36 (0, 0))) := ⟨h2_⟩
                have n3_ : Aside0 (w.heap.size ≤ gb248) := ⟨h3_⟩
                have n4_ : Aside0 (w.heap.size ≤ gb248) := ⟨h4_⟩
                have n5_ : Aside0 (Below w.heap.size w w48) := ⟨h5_⟩
                clear HB
                clear h0_ h1_ h2_ h3_ h4_ h5_
                have HO236 := n0_
                have HO243 := n1_
                have BK248 := n2_
                have GW248 := n3_
                have GE248 := n4_
                have HB := n5_
                clear n0_ n1_ n2_ n3_ n4_ n5_
                have hHeld := trivial
                refine norm_ (a' := ?_) ?_ ?_
                rotate_left
                · simp only [putAll, Act.put, List.setIfInBounds_toArray, List.set_cons_zero, List.set_cons_succ]
                  rfl
                refine one_ (i := 11) (N := some 8) #[true, true, true, true, true, true, true, true, true, true, true, true, false, false] rfl rfl (one_of HT_.out (by kernel_rfl)) (by decide) (fun K hK => ?_)
                refine box_step ?hg (N := 8) ?hd (cs := #[.slice none 0 0, .int .u64 0, .int .u64 0, .int .i64 0, .int .i64 0]) (t := 36) ?hr ?_; (case hd => rfl); (case hg => rfl); (case hr => first | (go_simp; done) | (go_simp; rfl))
                intro gb249 hg w49 hbox hb
                have n0_ := Aside0.mk (Kd.R_below (by (with_reducible repeat (first | apply Kd.R_alloc | apply Kd.R_drewN | apply Kd.R_drew)); exact HO236.out) hb)
                have n1_ := Aside0.mk (Kd.R_below (by (with_reducible repeat (first | apply Kd.R_alloc | apply Kd.R_drewN | apply Kd.R_drew)); exact HO243.out) hb)
                have n2_ := Aside0.mk (blk_below (g := gb248) (o := .cells #[.slice none 0 0, .int .u64 0, .int .u64 0, .int .i64 0, .int .i64 0] 36 (0, 0)) (by (with_reducible repeat (first | refine blk_drewN ?_ _ | refine blk_drew ?_ | refine blk_alloc ?_ _)); exact BK248.out) hb)
                have n3_ := Aside0.mk (below_step (by repeat (first | (with_reducible first | exact HB.out | apply below_alloc | apply pw_below_drewN | apply below_drew1 | refine below_set ?_ GE248.out) | exact HB.out)) hb)
                have n4_ := Aside0.mk (hbox)
                have n5_ := Aside0.mk ((by rw [hg]; exact (below_size (by repeat (first | (with_reducible first | exact HB.out | apply below_alloc | apply pw_below_drewN | apply below_drew1 | refine below_set ?_ GE248.out) | exact HB.out))) : w.heap.size ≤ gb249))
                have n6_ := Aside0.mk ((by rw [hg]; exact (below_size (by repeat (first | (with_reducible first | exact HB.out | apply below_alloc | apply pw_below_drewN | apply below_drew1 | refine below_set ?_ GE248.out) | exact HB.out))) : w.heap.size ≤ gb249))
                have n7_ := Aside0.mk ((by rw [hg]; exact Nat.ne_of_lt (blk_lt (g := gb248) (o := .cells #[.slice none 0 0, .int .u64 0, .int .u64 0, .int .i64 0, .int .i64 0] 36 (0, 0)) (by (with_reducible repeat (first | refine blk_drewN ?_ _ | refine blk_drew ?_ | refine blk_alloc ?_ _)); exact BK248.out)) : gb248 ≠ gb249))
                have n8_ := Aside0.mk ((by rw [hg]; exact Nat.ne_of_gt (blk_lt (g := gb248) (o := .cells #[.slice none 0 0, .int .u64 0, .int .u64 0, .int .i64 0, .int .i64 0] 36 (0, 0)) (by (with_reducible repeat (first | refine blk_drewN ?_ _ | refine blk_drew ?_ | refine blk_alloc ?_ _)); exact BK248.out)) : gb249 ≠ gb248))
                clear HO236
                clear HO243
                clear BK248
                clear HB
                have HO236 := n0_
                have HO243 := n1_
                have BK248 := n2_
                have HB := n3_
                have BK249 := n4_
                have GW249 := n5_
                have GE249 := n6_
                have NB248_249 := n7_
                have NB249_248 := n8_
                clear n0_ n1_ n2_ n3_ n4_ n5_ n6_ n7_ n8_
                clear hb hbox hg
                refine hK.out _ _ trivial (fun hHeld => ?_)
                clear hK K
                refine norm_ (a' := ?_) ?_ ?_
                rotate_left
                · show Act.put _ (some 8) _ = _
                  simp only [Act.put, List.setIfInBounds_toArray, List.set_cons_zero, List.set_cons_succ, i64_w, i32_w]
                  rfl
                exact norm_ (by first | (simp only [putAll, Act.put, List.setIfInBounds_toArray, List.set_cons_zero, List.set_cons_succ]; done) | (simp only [putAll, Act.put, List.setIfInBounds_toArray, List.set_cons_zero, List.set_cons_succ]; rfl)) (hJ2_9_10_11 (v235, v242, gb248, gb249) _ ⟨(by (with_reducible repeat (first | apply Kd.R_alloc | apply Kd.R_drewN | apply Kd.R_drew)); exact HO236.out), (by (with_reducible repeat (first | apply Kd.R_alloc | apply Kd.R_drewN | apply Kd.R_drew)); exact HO243.out), (by (with_reducible repeat (first | refine blk_drewN ?_ _ | refine blk_drew ?_ | refine blk_alloc ?_ _)); exact BK248.out), (by (with_reducible repeat (first | refine blk_drewN ?_ _ | refine blk_drew ?_ | refine blk_alloc ?_ _)); exact BK249.out), GW248.out, GE248.out, NB249_248.out, NB248_249.out, GW249.out, GE249.out, (by repeat (first | (with_reducible first | exact HB.out | apply below_alloc | apply pw_below_drewN | apply below_drew1 | refine below_set ?_ GE248.out | refine below_set ?_ GE249.out) | exact HB.out))⟩)
            rintro ⟨v235, v242, gb248, gb249⟩ w49 ⟨h0_, h1_, h2_, h3_, h4_, h5_, h6_, h7_, h8_, h9_, h10_⟩
            have n0_ : Aside0 (Kd.R k27 27 w49 w.heap.size (fun k_ => some k_ ≠ (v242 : Value).ownBlock) v235 t234) := ⟨h0_⟩
            have n1_ : Aside0 (Kd.R k27 27 w49 w.heap.size (fun k_ => some k_ ≠ (v235 : Value).ownBlock) v242 t241) := ⟨h1_⟩
            have n2_ : Aside0 (w49.heap[gb248]? = some (.cells #[.slice none 0 0, .int .u64 0, .int .u64 0, .int .i64 0, .int .i64 0] 36 (0, 0))) := ⟨h2_⟩
            have n3_ : Aside0 (w49.heap[gb249]? = some (.cells #[.slice none 0 0, .int .u64 0, .int .u64 0, .int .i64 0, .int .i64 0] 36 (0, 0))) := ⟨h3_⟩
            have n4_ : Aside0 (w.heap.size ≤ gb248) := ⟨h4_⟩
            have n5_ : Aside0 (w.heap.size ≤ gb248) := ⟨h5_⟩
            have n6_ : Aside0 (gb249 ≠ gb248) := ⟨h6_⟩
            have n7_ : Aside0 (gb248 ≠ gb249) := ⟨h7_⟩
            have n8_ : Aside0 (w.heap.size ≤ gb249) := ⟨h8_⟩
            have n9_ : Aside0 (w.heap.size ≤ gb249) := ⟨h9_⟩
            have n10_ : Aside0 (Below w.heap.size w w49) := ⟨h10_⟩
            clear HB
            clear h0_ h1_ h2_ h3_ h4_ h5_ h6_ h7_ h8_ h9_ h10_
            have HO236 := n0_
            have HO243 := n1_
            have BK248 := n2_
            have BK249 := n3_
            have GW248 := n4_
            have GE248 := n5_
            have NB249_248 := n6_
            have NB248_249 := n7_
            have GW249 := n8_
            have GE249 := n9_
            have HB := n10_
            clear n0_ n1_ n2_ n3_ n4_ n5_ n6_ n7_ n8_ n9_ n10_
            have hHeld := trivial
            obtain ⟨Ao50, co50, eo50⟩ := Kd.R_slice HO236.out
            (first | subst eo50 | (injection eo50 with f1_ f2_ f3_; have f4_ := f1_.symm; have f5_ := f3_.symm; clear f1_ f2_ f3_; subst f4_; subst f5_))
            obtain ⟨Ao56, co56, eo56⟩ := Kd.R_slice HO243.out
            (first | subst eo56 | (injection eo56 with f1_ f2_ f3_; have f4_ := f1_.symm; have f5_ := f3_.symm; clear f1_ f2_ f3_; subst f4_; subst f5_))
            refine norm_ (a' := ?_) ?_ ?_
            rotate_left
            · simp only [putAll, Act.put, List.setIfInBounds_toArray, List.set_cons_zero, List.set_cons_succ]
              rfl
            refine one_ (i := 12) (N := none) #[true, true, true, true, true, true, true, true, true, true, true, true, true, false] rfl rfl (one_of HT_.out (by kernel_rfl)) (by decide) (fun K hK => ?_)
            have hs51 : w49.cell? ⟨gb248, 0, none⟩ = some (.slice none 0 0) := (blk_cell BK248.out 0).trans rfl
            have hfs51 := blk_frozen BK248.out 0
            have hns51_1 := NB249_248.out
            have hms51_1 := NB248_249.out
            have hs52 : w49.cell? ⟨gb248, 1, none⟩ = some (.int .u64 0) := (blk_cell BK248.out 1).trans rfl
            have hfs52 := blk_frozen BK248.out 1
            have hns52_1 := NB249_248.out
            have hms52_1 := NB248_249.out
            have hs53 : w49.cell? ⟨gb248, 2, none⟩ = some (.int .u64 0) := (blk_cell BK248.out 2).trans rfl
            have hfs53 := blk_frozen BK248.out 2
            have hns53_1 := NB249_248.out
            have hms53_1 := NB248_249.out
            have hs54 : w49.cell? ⟨gb248, 3, none⟩ = some (.int .i64 0) := (blk_cell BK248.out 3).trans rfl
            have hfs54 := blk_frozen BK248.out 3
            have hns54_1 := NB249_248.out
            have hms54_1 := NB248_249.out
            have hs55 : w49.cell? ⟨gb248, 4, none⟩ = some (.int .i64 0) := (blk_cell BK248.out 4).trans rfl
            have hfs55 := blk_frozen BK248.out 4
            have hns55_1 := NB249_248.out
            have hms55_1 := NB248_249.out
            refine skip_ (w1 := ?_) (by rfl) rfl ?_ ?_
            rotate_left
            · go_simp
              rfl
            refine hK.out _ _ trivial (fun hHeld => ?_)
            clear hK K
            refine one_ (i := 13) (N := none) #[true, true, true, true, true, true, true, true, true, true, true, true, true, true] rfl rfl (one_of HT_.out (by kernel_rfl)) (by decide) (fun K hK => ?_)
            have hs57 : w49.cell? ⟨gb249, 0, none⟩ = some (.slice none 0 0) := (blk_cell BK249.out 0).trans rfl
            have hfs57 := blk_frozen BK249.out 0
            have hns57_0 := NB248_249.out
            have hms57_0 := NB249_248.out
            have hs58 : w49.cell? ⟨gb249, 1, none⟩ = some (.int .u64 0) := (blk_cell BK249.out 1).trans rfl
            have hfs58 := blk_frozen BK249.out 1
            have hns58_0 := NB248_249.out
            have hms58_0 := NB249_248.out
            have hs59 : w49.cell? ⟨gb249, 2, none⟩ = some (.int .u64 0) := (blk_cell BK249.out 2).trans rfl
            have hfs59 := blk_frozen BK249.out 2
            have hns59_0 := NB248_249.out
            have hms59_0 := NB249_248.out
            have hs60 : w49.cell? ⟨gb249, 3, none⟩ = some (.int .i64 0) := (blk_cell BK249.out 3).trans rfl
            have hfs60 := blk_frozen BK249.out 3
            have hns60_0 := NB248_249.out
            have hms60_0 := NB249_248.out
            have hs61 : w49.cell? ⟨gb249, 4, none⟩ = some (.int .i64 0) := (blk_cell BK249.out 4).trans rfl
            have hfs61 := blk_frozen BK249.out 4
            have hns61_0 := NB248_249.out
            have hms61_0 := NB249_248.out
            refine skip_ (w1 := ?_) (by rfl) rfl ?_ ?_
            rotate_left
            · go_simp
              rfl
            refine hK.out _ _ trivial (fun hHeld => ?_)
            clear hK K
            refine done_ (done_of HT_.out (by kernel_rfl)) ?_
            try go_wp2
            have n0_ : Aside0 (Kd.R k27 27 ((((((((((w49.setCell ⟨gb248, 0, none⟩ (.slice Ao50 t234.length co50)).setCell ⟨gb248, 1, none⟩ (.int .u64 t237)).setCell ⟨gb248, 2, none⟩ (.int .u64 t238)).setCell ⟨gb248, 3, none⟩ (.int .i64 t239)).setCell ⟨gb248, 4, none⟩ (.int .i64 t240)).setCell ⟨gb249, 0, none⟩ (.slice Ao56 t241.length co56)).setCell ⟨gb249, 1, none⟩ (.int .u64 t244)).setCell ⟨gb249, 2, none⟩ (.int .u64 t245)).setCell ⟨gb249, 3, none⟩ (.int .i64 t246)).setCell ⟨gb249, 4, none⟩ (.int .i64 t247)) w.heap.size (fun k_ => some k_ ≠ (.slice Ao56 t241.length co56 : Value).ownBlock) (.slice Ao50 t234.length co50) t234) := ⟨by (with_reducible repeat (first | apply Kd.R_alloc | apply Kd.R_drewN | apply Kd.R_drew)); exact Kd.R_mono (Kd.R_far (p := ⟨gb249, 4, none⟩) (Kd.R_far (p := ⟨gb249, 3, none⟩) (Kd.R_far (p := ⟨gb249, 2, none⟩) (Kd.R_far (p := ⟨gb249, 1, none⟩) (Kd.R_far (p := ⟨gb249, 0, none⟩) (Kd.R_far (p := ⟨gb248, 4, none⟩) (Kd.R_far (p := ⟨gb248, 3, none⟩) (Kd.R_far (p := ⟨gb248, 2, none⟩) (Kd.R_far (p := ⟨gb248, 1, none⟩) (Kd.R_far (p := ⟨gb248, 0, none⟩) (Kd.R_types (Kd.R_types HO236.out BK248.out (by decide)) BK249.out (by decide)) (fun _ hk => hk.1.2) (.slice Ao50 t234.length co50)) (fun _ hk => hk.1.2) (.int .u64 t237)) (fun _ hk => hk.1.2) (.int .u64 t238)) (fun _ hk => hk.1.2) (.int .i64 t239)) (fun _ hk => hk.1.2) (.int .i64 t240)) (fun _ hk => hk.2) (.slice Ao56 t241.length co56)) (fun _ hk => hk.2) (.int .u64 t244)) (fun _ hk => hk.2) (.int .u64 t245)) (fun _ hk => hk.2) (.int .i64 t246)) (fun _ hk => hk.2) (.int .i64 t247)) (fun _ hk => hk.1.1)⟩
            have n1_ : Aside0 (Kd.R k27 27 ((((((((((w49.setCell ⟨gb248, 0, none⟩ (.slice Ao50 t234.length co50)).setCell ⟨gb248, 1, none⟩ (.int .u64 t237)).setCell ⟨gb248, 2, none⟩ (.int .u64 t238)).setCell ⟨gb248, 3, none⟩ (.int .i64 t239)).setCell ⟨gb248, 4, none⟩ (.int .i64 t240)).setCell ⟨gb249, 0, none⟩ (.slice Ao56 t241.length co56)).setCell ⟨gb249, 1, none⟩ (.int .u64 t244)).setCell ⟨gb249, 2, none⟩ (.int .u64 t245)).setCell ⟨gb249, 3, none⟩ (.int .i64 t246)).setCell ⟨gb249, 4, none⟩ (.int .i64 t247)) w.heap.size (fun k_ => some k_ ≠ (.slice Ao50 t234.length co50 : Value).ownBlock) (.slice Ao56 t241.length co56) t241) := ⟨by (with_reducible repeat (first | apply Kd.R_alloc | apply Kd.R_drewN | apply Kd.R_drew)); exact Kd.R_mono (Kd.R_far (p := ⟨gb249, 4, none⟩) (Kd.R_far (p := ⟨gb249, 3, none⟩) (Kd.R_far (p := ⟨gb249, 2, none⟩) (Kd.R_far (p := ⟨gb249, 1, none⟩) (Kd.R_far (p := ⟨gb249, 0, none⟩) (Kd.R_far (p := ⟨gb248, 4, none⟩) (Kd.R_far (p := ⟨gb248, 3, none⟩) (Kd.R_far (p := ⟨gb248, 2, none⟩) (Kd.R_far (p := ⟨gb248, 1, none⟩) (Kd.R_far (p := ⟨gb248, 0, none⟩) (Kd.R_types (Kd.R_types HO243.out BK248.out (by decide)) BK249.out (by decide)) (fun _ hk => hk.1.2) (.slice Ao50 t234.length co50)) (fun _ hk => hk.1.2) (.int .u64 t237)) (fun _ hk => hk.1.2) (.int .u64 t238)) (fun _ hk => hk.1.2) (.int .i64 t239)) (fun _ hk => hk.1.2) (.int .i64 t240)) (fun _ hk => hk.2) (.slice Ao56 t241.length co56)) (fun _ hk => hk.2) (.int .u64 t244)) (fun _ hk => hk.2) (.int .u64 t245)) (fun _ hk => hk.2) (.int .i64 t246)) (fun _ hk => hk.2) (.int .i64 t247)) (fun _ hk => hk.1.1)⟩
            have n2_ : Aside0 (((((((((((w49.setCell ⟨gb248, 0, none⟩ (.slice Ao50 t234.length co50)).setCell ⟨gb248, 1, none⟩ (.int .u64 t237)).setCell ⟨gb248, 2, none⟩ (.int .u64 t238)).setCell ⟨gb248, 3, none⟩ (.int .i64 t239)).setCell ⟨gb248, 4, none⟩ (.int .i64 t240)).setCell ⟨gb249, 0, none⟩ (.slice Ao56 t241.length co56)).setCell ⟨gb249, 1, none⟩ (.int .u64 t244)).setCell ⟨gb249, 2, none⟩ (.int .u64 t245)).setCell ⟨gb249, 3, none⟩ (.int .i64 t246)).setCell ⟨gb249, 4, none⟩ (.int .i64 t247)).heap[gb248]? = some (.cells #[.slice Ao50 t234.length co50, .int .u64 t237, .int .u64 t238, .int .i64 t239, .int .i64 t240] 36 (0, 0))) := ⟨by (with_reducible repeat (first | refine blk_drewN ?_ _ | refine blk_drew ?_ | refine blk_alloc ?_ _)); refine blk_far ?_ NB248_249.out _; (with_reducible repeat (first | refine blk_drewN ?_ _ | refine blk_drew ?_ | refine blk_alloc ?_ _)); refine blk_far ?_ NB248_249.out _; (with_reducible repeat (first | refine blk_drewN ?_ _ | refine blk_drew ?_ | refine blk_alloc ?_ _)); refine blk_far ?_ NB248_249.out _; (with_reducible repeat (first | refine blk_drewN ?_ _ | refine blk_drew ?_ | refine blk_alloc ?_ _)); refine blk_far ?_ NB248_249.out _; (with_reducible repeat (first | refine blk_drewN ?_ _ | refine blk_drew ?_ | refine blk_alloc ?_ _)); refine blk_far ?_ NB248_249.out _; (with_reducible repeat (first | refine blk_drewN ?_ _ | refine blk_drew ?_ | refine blk_alloc ?_ _)); refine blk_put (cs := #[.slice Ao50 t234.length co50, .int .u64 t237, .int .u64 t238, .int .i64 t239, .int .i64 0]) ?_ 4 _ rfl; (with_reducible repeat (first | refine blk_drewN ?_ _ | refine blk_drew ?_ | refine blk_alloc ?_ _)); refine blk_put (cs := #[.slice Ao50 t234.length co50, .int .u64 t237, .int .u64 t238, .int .i64 0, .int .i64 0]) ?_ 3 _ rfl; (with_reducible repeat (first | refine blk_drewN ?_ _ | refine blk_drew ?_ | refine blk_alloc ?_ _)); refine blk_put (cs := #[.slice Ao50 t234.length co50, .int .u64 t237, .int .u64 0, .int .i64 0, .int .i64 0]) ?_ 2 _ rfl; (with_reducible repeat (first | refine blk_drewN ?_ _ | refine blk_drew ?_ | refine blk_alloc ?_ _)); refine blk_put (cs := #[.slice Ao50 t234.length co50, .int .u64 0, .int .u64 0, .int .i64 0, .int .i64 0]) ?_ 1 _ rfl; (with_reducible repeat (first | refine blk_drewN ?_ _ | refine blk_drew ?_ | refine blk_alloc ?_ _)); refine blk_put (cs := #[.slice none 0 0, .int .u64 0, .int .u64 0, .int .i64 0, .int .i64 0]) ?_ 0 _ rfl; (with_reducible repeat (first | refine blk_drewN ?_ _ | refine blk_drew ?_ | refine blk_alloc ?_ _)); exact BK248.out⟩
            have n3_ : Aside0 (((((((((((w49.setCell ⟨gb248, 0, none⟩ (.slice Ao50 t234.length co50)).setCell ⟨gb248, 1, none⟩ (.int .u64 t237)).setCell ⟨gb248, 2, none⟩ (.int .u64 t238)).setCell ⟨gb248, 3, none⟩ (.int .i64 t239)).setCell ⟨gb248, 4, none⟩ (.int .i64 t240)).setCell ⟨gb249, 0, none⟩ (.slice Ao56 t241.length co56)).setCell ⟨gb249, 1, none⟩ (.int .u64 t244)).setCell ⟨gb249, 2, none⟩ (.int .u64 t245)).setCell ⟨gb249, 3, none⟩ (.int .i64 t246)).setCell ⟨gb249, 4, none⟩ (.int .i64 t247)).heap[gb249]? = some (.cells #[.slice Ao56 t241.length co56, .int .u64 t244, .int .u64 t245, .int .i64 t246, .int .i64 t247] 36 (0, 0))) := ⟨by (with_reducible repeat (first | refine blk_drewN ?_ _ | refine blk_drew ?_ | refine blk_alloc ?_ _)); refine blk_put (cs := #[.slice Ao56 t241.length co56, .int .u64 t244, .int .u64 t245, .int .i64 t246, .int .i64 0]) ?_ 4 _ rfl; (with_reducible repeat (first | refine blk_drewN ?_ _ | refine blk_drew ?_ | refine blk_alloc ?_ _)); refine blk_put (cs := #[.slice Ao56 t241.length co56, .int .u64 t244, .int .u64 t245, .int .i64 0, .int .i64 0]) ?_ 3 _ rfl; (with_reducible repeat (first | refine blk_drewN ?_ _ | refine blk_drew ?_ | refine blk_alloc ?_ _)); refine blk_put (cs := #[.slice Ao56 t241.length co56, .int .u64 t244, .int .u64 0, .int .i64 0, .int .i64 0]) ?_ 2 _ rfl; (with_reducible repeat (first | refine blk_drewN ?_ _ | refine blk_drew ?_ | refine blk_alloc ?_ _)); refine blk_put (cs := #[.slice Ao56 t241.length co56, .int .u64 0, .int .u64 0, .int .i64 0, .int .i64 0]) ?_ 1 _ rfl; (with_reducible repeat (first | refine blk_drewN ?_ _ | refine blk_drew ?_ | refine blk_alloc ?_ _)); refine blk_put (cs := #[.slice none 0 0, .int .u64 0, .int .u64 0, .int .i64 0, .int .i64 0]) ?_ 0 _ rfl; (with_reducible repeat (first | refine blk_drewN ?_ _ | refine blk_drew ?_ | refine blk_alloc ?_ _)); refine blk_far ?_ NB249_248.out _; (with_reducible repeat (first | refine blk_drewN ?_ _ | refine blk_drew ?_ | refine blk_alloc ?_ _)); refine blk_far ?_ NB249_248.out _; (with_reducible repeat (first | refine blk_drewN ?_ _ | refine blk_drew ?_ | refine blk_alloc ?_ _)); refine blk_far ?_ NB249_248.out _; (with_reducible repeat (first | refine blk_drewN ?_ _ | refine blk_drew ?_ | refine blk_alloc ?_ _)); refine blk_far ?_ NB249_248.out _; (with_reducible repeat (first | refine blk_drewN ?_ _ | refine blk_drew ?_ | refine blk_alloc ?_ _)); refine blk_far ?_ NB249_248.out _; (with_reducible repeat (first | refine blk_drewN ?_ _ | refine blk_drew ?_ | refine blk_alloc ?_ _)); exact BK249.out⟩
            have n4_ : Aside0 (Below w.heap.size w ((((((((((w49.setCell ⟨gb248, 0, none⟩ (.slice Ao50 t234.length co50)).setCell ⟨gb248, 1, none⟩ (.int .u64 t237)).setCell ⟨gb248, 2, none⟩ (.int .u64 t238)).setCell ⟨gb248, 3, none⟩ (.int .i64 t239)).setCell ⟨gb248, 4, none⟩ (.int .i64 t240)).setCell ⟨gb249, 0, none⟩ (.slice Ao56 t241.length co56)).setCell ⟨gb249, 1, none⟩ (.int .u64 t244)).setCell ⟨gb249, 2, none⟩ (.int .u64 t245)).setCell ⟨gb249, 3, none⟩ (.int .i64 t246)).setCell ⟨gb249, 4, none⟩ (.int .i64 t247))) := ⟨by repeat (first | (with_reducible first | exact HB.out | apply below_alloc | apply pw_below_drewN | apply below_drew1 | refine below_set ?_ GE248.out | refine below_set ?_ GE249.out) | exact HB.out)⟩
            (try clear HO236)
            (try clear HO243)
            (try clear BK248)
            (try clear BK249)
            (try clear HB)
            generalize ((((((((((w49.setCell ⟨gb248, 0, none⟩ (.slice Ao50 t234.length co50)).setCell ⟨gb248, 1, none⟩ (.int .u64 t237)).setCell ⟨gb248, 2, none⟩ (.int .u64 t238)).setCell ⟨gb248, 3, none⟩ (.int .i64 t239)).setCell ⟨gb248, 4, none⟩ (.int .i64 t240)).setCell ⟨gb249, 0, none⟩ (.slice Ao56 t241.length co56)).setCell ⟨gb249, 1, none⟩ (.int .u64 t244)).setCell ⟨gb249, 2, none⟩ (.int .u64 t245)).setCell ⟨gb249, 3, none⟩ (.int .i64 t246)).setCell ⟨gb249, 4, none⟩ (.int .i64 t247)) = w62 at n0_ n1_ n2_ n3_ n4_ ⊢
            have HO236 := n0_
            have HO243 := n1_
            have BK248 := n2_
            have BK249 := n3_
            have HB := n4_
            clear n0_ n1_ n2_ n3_ n4_
            have n0_ := Aside0.mk (Kd.R_drew HO236.out)
            have n1_ := Aside0.mk (Kd.R_drew HO243.out)
            have n2_ := Aside0.mk (blk_drew BK248.out)
            have n3_ := Aside0.mk (blk_drew BK249.out)
            have n4_ := Aside0.mk (below_drew1 HB.out)
            clear HO236
            clear HO243
            clear BK248
            clear BK249
            clear HB
            have HO236 := n0_
            have HO243 := n1_
            have BK248 := n2_
            have BK249 := n3_
            have HB := n4_
            clear n0_ n1_ n2_ n3_ n4_
            refine start_ (n := 15) (S := fun w' => w'.cell? ⟨gb248, 0, none⟩ = some (.slice Ao50 t234.length co50) ∧ w'.cell? ⟨gb248, 1, none⟩ = some (.int .u64 t237) ∧ w'.cell? ⟨gb248, 2, none⟩ = some (.int .u64 t238) ∧ w'.cell? ⟨gb248, 3, none⟩ = some (.int .i64 t239) ∧ w'.cell? ⟨gb248, 4, none⟩ = some (.int .i64 t240)) (ds := [11, 14]) #[false, false, false, false, false, false, false, false, false, false, false, false, false, false, false] (by kernel_rfl) rfl rfl ⟨(blk_cell BK248.out 0).trans rfl, (blk_cell BK248.out 1).trans rfl, (blk_cell BK248.out 2).trans rfl, (blk_cell BK248.out 3).trans rfl, (blk_cell BK248.out 4).trans rfl⟩ (fun hHeld => ?_); refine with_tabW laws_FnProofNodesScaled.tab4 laws_FnProofNodesScaled.bits4 (fun HT_ HW_ => ?_)
            generalize w62.drew = w63 at HO236 HO243 BK248 BK249 HB hHeld ⊢
            refine pure_ (i := 0) (N := some 28) (v := ?_) (a' := ?_) #[true, false, false, false, false, false, false, false, false, false, false, false, false, false, false] rfl rfl (any_of HT_.out (by kernel_rfl)) (fun _ _ _ h => h) (Or.inl ⟨by rfl, ?_⟩) ?_ ?_
            rotate_left
            · intro w'
              go_simp
              with_reducible rfl
            rotate_left
            · simp only [Act.put, List.setIfInBounds_toArray, List.set_cons_zero, List.set_cons_succ, i64_w, i32_w]
              rfl
            refine pure_ (i := 2) (N := some 30) (v := ?_) (a' := ?_) #[true, false, true, false, false, false, false, false, false, false, false, false, false, false, false] rfl rfl (any_of HT_.out (by kernel_rfl)) (fun _ _ _ h => h) (Or.inl ⟨by rfl, ?_⟩) ?_ ?_
            rotate_left
            · intro w'
              go_simp
              with_reducible rfl
            rotate_left
            · simp only [Act.put, List.setIfInBounds_toArray, List.set_cons_zero, List.set_cons_succ, i64_w, i32_w]
              rfl
            refine pure_ (i := 4) (N := some 32) (v := ?_) (a' := ?_) #[true, false, true, false, true, false, false, false, false, false, false, false, false, false, false] rfl rfl (any_of HT_.out (by kernel_rfl)) (fun _ _ _ h => h) (Or.inl ⟨by rfl, ?_⟩) ?_ ?_
            rotate_left
            · intro w'
              go_simp
              with_reducible rfl
            rotate_left
            · simp only [Act.put, List.setIfInBounds_toArray, List.set_cons_zero, List.set_cons_succ, i64_w, i32_w]
              rfl
            refine pure_ (i := 5) (N := some 33) (v := ?_) (a' := ?_) #[true, false, true, false, true, true, false, false, false, false, false, false, false, false, false] rfl rfl (any_of HT_.out (by kernel_rfl)) (fun _ _ _ h => h) (Or.inl ⟨by rfl, ?_⟩) ?_ ?_
            rotate_left
            · intro w'
              go_simp
              with_reducible rfl
            rotate_left
            · simp only [Act.put, List.setIfInBounds_toArray, List.set_cons_zero, List.set_cons_succ, i64_w, i32_w]
              rfl
            refine pure_ (i := 7) (N := some 35) (v := ?_) (a' := ?_) #[true, false, true, false, true, true, false, true, false, false, false, false, false, false, false] rfl rfl (any_of HT_.out (by kernel_rfl)) (fun _ _ _ h => h) (Or.inl ⟨by rfl, ?_⟩) ?_ ?_
            rotate_left
            · intro w'
              go_simp
              with_reducible rfl
            rotate_left
            · simp only [Act.put, List.setIfInBounds_toArray, List.set_cons_zero, List.set_cons_succ, i64_w, i32_w]
              rfl
            refine pure_ (i := 8) (N := some 36) (v := ?_) (a' := ?_) #[true, false, true, false, true, true, false, true, true, false, false, false, false, false, false] rfl rfl (any_of HT_.out (by kernel_rfl)) (fun _ _ _ h => h) (Or.inl ⟨by rfl, ?_⟩) ?_ ?_
            rotate_left
            · intro w'
              go_simp
              with_reducible rfl
            rotate_left
            · simp only [Act.put, List.setIfInBounds_toArray, List.set_cons_zero, List.set_cons_succ, i64_w, i32_w]
              rfl
            refine take_ (i := 1) (N := some 29) (v := ?_) (a' := ?_) #[true, true, true, false, true, true, false, true, true, false, false, false, false, false, false] rfl rfl (take_ofW HT_.out HW_.out (by kernel_rfl)) (fun _ _ _ h => h) (Or.inl ⟨by rfl, ?_⟩) hHeld ?_ ?_
            rotate_left
            · rintro w' ⟨s0, s1, s2, s3, s4⟩
              go_simp
              with_reducible rfl
            rotate_left
            · simp only [Act.put, List.setIfInBounds_toArray, List.set_cons_zero, List.set_cons_succ, i64_w, i32_w]
              rfl
            refine take_ (i := 6) (N := some 34) (v := ?_) (a' := ?_) #[true, true, true, false, true, true, true, true, true, false, false, false, false, false, false] rfl rfl (take_ofW HT_.out HW_.out (by kernel_rfl)) (fun _ _ _ h => h) (Or.inl ⟨by rfl, ?_⟩) hHeld ?_ ?_
            rotate_left
            · rintro w' ⟨s0, s1, s2, s3, s4⟩
              go_simp
              with_reducible rfl
            rotate_left
            · simp only [Act.put, List.setIfInBounds_toArray, List.set_cons_zero, List.set_cons_succ, i64_w, i32_w]
              rfl
            refine pure_ (i := 9) (N := some 37) (v := ?_) (a' := ?_) #[true, true, true, false, true, true, true, true, true, true, false, false, false, false, false] rfl rfl (any_of HT_.out (by kernel_rfl)) (fun _ _ _ h => h) (Or.inl ⟨by rfl, ?_⟩) ?_ ?_
            rotate_left
            · intro w'
              go_simp
              with_reducible rfl
            rotate_left
            · simp only [Act.put, List.setIfInBounds_toArray, List.set_cons_zero, List.set_cons_succ, i64_w, i32_w]
              rfl
            refine one_ (i := 3) (N := some 31) #[true, true, true, true, true, true, true, true, true, true, false, false, false, false, false] rfl rfl (one_of HT_.out (by kernel_rfl)) (by decide) (fun K hK => ?_)
            refine goes_ Tryd.func13 (by kernel_rfl) rfl #[.slice Ao50 t234.length co50, .int .i64 a2] (by rfl) rfl rfl (by (try simp only [List.map_toArray, List.map_cons, List.map_nil]); first | done | rfl | (simp only [List.length_drop, List.length_take]; rfl)) ?_
            with_reducible refine (laws_raised.calls kj3 _ _ t234 a2 t250 _ ?side1 ?side2 A12.out).mono ?_
            (case side1 => repeat (first | exact (Kd.R_reads' HO236.out).2.2 | (with_reducible refine Kd.C_alloc ?_ _) | (with_reducible refine Kd.C_drewN ?_ _) | (with_reducible refine Kd.C_drew ?_)))
            (case side2 => exact (Kd.R_reads' HO236.out).2.1)
            rintro e w64 ⟨v251, rfl, ho0, hb⟩
            refine ⟨_, rfl, ?_⟩
            have n0_ := Aside0.mk (Kd.R_elder' (by (with_reducible repeat (first | apply Kd.R_alloc | apply Kd.R_drewN | apply Kd.R_drew)); exact HO236.out) (Kd.R_base ho0) hb)
            have n1_ := Aside0.mk (Kd.R_elder' (by (with_reducible repeat (first | apply Kd.R_alloc | apply Kd.R_drewN | apply Kd.R_drew)); exact HO243.out) (Kd.R_base ho0) hb)
            have n2_ := Aside0.mk (Kd.R_lower (Kd.R_new' (Kd.R_new' ho0 (Kd.R_lt (by (with_reducible repeat (first | apply Kd.R_alloc | apply Kd.R_drewN | apply Kd.R_drew)); exact HO236.out))) (Kd.R_lt (by (with_reducible repeat (first | apply Kd.R_alloc | apply Kd.R_drewN | apply Kd.R_drew)); exact HO243.out))) (below_size (by repeat (first | (with_reducible first | exact HB.out | apply below_alloc | apply pw_below_drewN | apply below_drew1 | refine below_set ?_ GE248.out | refine below_set ?_ GE249.out) | exact HB.out))))
            have n3_ := Aside0.mk (blk_below (g := gb248) (o := .cells #[.slice Ao50 t234.length co50, .int .u64 t237, .int .u64 t238, .int .i64 t239, .int .i64 t240] 36 (0, 0)) (by (with_reducible repeat (first | refine blk_drewN ?_ _ | refine blk_drew ?_ | refine blk_alloc ?_ _)); exact BK248.out) hb)
            have n4_ := Aside0.mk (blk_below (g := gb249) (o := .cells #[.slice Ao56 t241.length co56, .int .u64 t244, .int .u64 t245, .int .i64 t246, .int .i64 t247] 36 (0, 0)) (by (with_reducible repeat (first | refine blk_drewN ?_ _ | refine blk_drew ?_ | refine blk_alloc ?_ _)); exact BK249.out) hb)
            have n5_ := Aside0.mk (below_step (by repeat (first | (with_reducible first | exact HB.out | apply below_alloc | apply pw_below_drewN | apply below_drew1 | refine below_set ?_ GE248.out | refine below_set ?_ GE249.out) | exact HB.out)) hb)
            clear HO236
            clear HO243
            clear BK248
            clear BK249
            clear HB
            have HO236 := n0_
            have HO243 := n1_
            have HO252 := n2_
            have BK248 := n3_
            have BK249 := n4_
            have HB := n5_
            clear n0_ n1_ n2_ n3_ n4_ n5_
            (try clear hb)
            (try clear hb2)
            (try clear hk)
            (try clear hi)
            (try clear ho0)
            obtain ⟨Ao65, co65, eo65⟩ := Kd.R_slice HO252.out
            (first | subst eo65 | (injection eo65 with f1_ f2_ f3_; have f4_ := f1_.symm; have f5_ := f3_.symm; clear f1_ f2_ f3_; subst f4_; subst f5_))
            refine hK.out _ _ ⟨(blk_cell BK248.out 0).trans rfl, (blk_cell BK248.out 1).trans rfl, (blk_cell BK248.out 2).trans rfl, (blk_cell BK248.out 3).trans rfl, (blk_cell BK248.out 4).trans rfl⟩ (fun hHeld => ?_)
            clear hK K
            refine norm_ (a' := ?_) ?_ ?_
            rotate_left
            · show Act.put _ (some 31) _ = _
              simp only [Act.put, List.setIfInBounds_toArray, List.set_cons_zero, List.set_cons_succ, i64_w, i32_w]
              rfl
            refine pure_ (i := 10) (N := some 38) (v := ?_) (a' := ?_) #[true, true, true, true, true, true, true, true, true, true, true, false, false, false, false] rfl rfl (any_of HT_.out (by kernel_rfl)) (fun _ _ _ h => h) (Or.inl ⟨by rfl, ?_⟩) ?_ ?_
            rotate_left
            · intro w'
              go_simp
              with_reducible rfl
            rotate_left
            · simp only [Act.put, List.setIfInBounds_toArray, List.set_cons_zero, List.set_cons_succ, i64_w, i32_w]
              rfl
            refine last_ (i := 11) (N := none) #[true, true, true, true, true, true, true, true, true, true, true, true, false, false, false] rfl rfl (one_of HT_.out (by kernel_rfl)) (by decide) (fun K hK => ?_)
            have hs66 : w64.cell? ⟨gb248, 0, none⟩ = some (.slice Ao50 t234.length co50) := (blk_cell BK248.out 0).trans rfl
            have hfs66 := blk_frozen BK248.out 0
            have hns66_1 := NB249_248.out
            have hms66_1 := NB248_249.out
            refine skip_ (w1 := ?_) (by rfl) rfl ?_ ?_
            rotate_left
            · go_simp
              rfl
            refine hK.out _ _ ?_
            clear hK K
            refine pure_ (i := 12) (N := some 39) (v := ?_) (a' := ?_) #[true, true, true, true, true, true, true, true, true, true, true, true, true, false, false] rfl rfl (any_of HT_.out (by kernel_rfl)) (fun _ _ _ h => h) (Or.inl ⟨by rfl, ?_⟩) ?_ ?_
            rotate_left
            · intro w'
              go_simp
              with_reducible rfl
            rotate_left
            · simp only [Act.put, List.setIfInBounds_toArray, List.set_cons_zero, List.set_cons_succ, i64_w, i32_w]
              rfl
            refine pure_ (i := 13) (N := some 40) (v := ?_) (a' := ?_) #[true, true, true, true, true, true, true, true, true, true, true, true, true, true, false] rfl rfl (any_of HT_.out (by kernel_rfl)) (fun _ _ _ h => h) (Or.inl ⟨by rfl, ?_⟩) ?_ ?_
            rotate_left
            · intro w'
              go_simp
              with_reducible rfl
            rotate_left
            · simp only [Act.put, List.setIfInBounds_toArray, List.set_cons_zero, List.set_cons_succ, i64_w, i32_w]
              rfl
            refine last_ (i := 14) (N := none) #[true, true, true, true, true, true, true, true, true, true, true, true, true, true, true] rfl rfl (one_of HT_.out (by kernel_rfl)) (by decide) (fun K hK => ?_)
            have hs67 : w64.cell? ⟨gb248, 1, none⟩ = some (.int .u64 t237) := (blk_cell BK248.out 1).trans rfl
            have hfs67 := blk_frozen BK248.out 1
            have hns67_1 := NB249_248.out
            have hms67_1 := NB248_249.out
            refine skip_ (w1 := ?_) (by rfl) rfl ?_ ?_
            rotate_left
            · go_simp
              rfl
            refine hK.out _ _ ?_
            clear hK K
            refine done_ (done_of HT_.out (by kernel_rfl)) ?_
            have hnb68 := NB248_249.out
            have hnc68 := NB249_248.out
            have hcz69_0 : w64.cell? ⟨gb248, 0, none⟩ = some (.slice Ao50 t234.length co50) := (blk_cell BK248.out 0).trans rfl
            have hcz69_1 : w64.cell? ⟨gb248, 1, none⟩ = some (.int .u64 t237) := (blk_cell BK248.out 1).trans rfl
            have hcz69_2 : w64.cell? ⟨gb248, 2, none⟩ = some (.int .u64 t238) := (blk_cell BK248.out 2).trans rfl
            have hcz69_3 : w64.cell? ⟨gb248, 3, none⟩ = some (.int .i64 t239) := (blk_cell BK248.out 3).trans rfl
            have hcz69_4 : w64.cell? ⟨gb248, 4, none⟩ = some (.int .i64 t240) := (blk_cell BK248.out 4).trans rfl
            have hfz69_0 := blk_frozen BK248.out 0
            have hfz69_1 := blk_frozen BK248.out 1
            have hfz69_2 := blk_frozen BK248.out 2
            have hfz69_3 := blk_frozen BK248.out 3
            have hfz69_4 := blk_frozen BK248.out 4
            have hcz70_0 : w64.cell? ⟨gb249, 0, none⟩ = some (.slice Ao56 t241.length co56) := (blk_cell BK249.out 0).trans rfl
            have hcz70_1 : w64.cell? ⟨gb249, 1, none⟩ = some (.int .u64 t244) := (blk_cell BK249.out 1).trans rfl
            have hcz70_2 : w64.cell? ⟨gb249, 2, none⟩ = some (.int .u64 t245) := (blk_cell BK249.out 2).trans rfl
            have hcz70_3 : w64.cell? ⟨gb249, 3, none⟩ = some (.int .i64 t246) := (blk_cell BK249.out 3).trans rfl
            have hcz70_4 : w64.cell? ⟨gb249, 4, none⟩ = some (.int .i64 t247) := (blk_cell BK249.out 4).trans rfl
            have hfz70_0 := blk_frozen BK249.out 0
            have hfz70_1 := blk_frozen BK249.out 1
            have hfz70_2 := blk_frozen BK249.out 2
            have hfz70_3 := blk_frozen BK249.out 3
            have hfz70_4 := blk_frozen BK249.out 4
            try go_wp2_with (first | ((with_reducible refine gate_callee (f := 14) rfl ?_); refine goesL_ (some 43) rfl rfl Tryd.func14 (by kernel_rfl) rfl #[.agg #[.slice Ao65 t250.length co65, .int .u64 (IntKind.u64.wrap (t237 + (IntKind.u64.wrap (a2)))), .int .u64 t238, .int .i64 t239, .int .i64 t240], .agg #[.slice Ao56 t241.length co56, .int .u64 t244, .int .u64 t245, .int .i64 t246, .int .i64 t247]] rfl (by (try simp only [List.map_toArray, List.map_cons, List.map_nil]); first | done | rfl | (simp only [List.length_drop, List.length_take]; rfl)) ?_; (with_reducible refine (spec_SameProof.calls kj3 _ _ t250 (IntKind.u64.wrap (t237 + (IntKind.u64.wrap (a2)))) t238 t239 t240 _ _ t241 t244 t245 t246 t247 false _ ?side1 ?side2 ?side3 ?side4 A13.out).mono ?_); (case side1 => refine (Kd.R_reads' (e := 27) (base := w.heap.size) (ok := fun k_ => ((True ∧ some k_ ≠ (.slice Ao50 t234.length co50 : Value).ownBlock) ∧ some k_ ≠ (.slice Ao56 t241.length co56 : Value).ownBlock)) (n := t250.length) (c := co65) ?_).2.2; exact (by (with_reducible repeat (first | apply Kd.R_alloc | apply Kd.R_drewN | apply Kd.R_drew)); exact (Kd.R_mono (Kd.R_far (p := ⟨gb248, 1, none⟩) (Kd.R_far (p := ⟨gb248, 0, none⟩) (Kd.R_types HO252.out BK248.out (by decide)) (fun _ hk => hk.2) (.slice Ao65 t250.length co65)) (fun _ hk => hk.2) (.int .u64 (IntKind.u64.wrap (t237 + (IntKind.u64.wrap (a2)))))) (fun _ h_ => h_.1)))); (case side2 => exact (Kd.R_reads' HO252.out).2.1); (case side3 => refine (Kd.R_reads' (e := 27) (base := w.heap.size) (ok := fun k_ => (some k_ ≠ (.slice Ao50 t234.length co50 : Value).ownBlock ∧ some k_ ≠ (.slice Ao65 t250.length co65 : Value).ownBlock)) (n := t241.length) (c := co56) ?_).2.2; exact (by (with_reducible repeat (first | apply Kd.R_alloc | apply Kd.R_drewN | apply Kd.R_drew)); exact (Kd.R_mono (Kd.R_far (p := ⟨gb248, 1, none⟩) (Kd.R_far (p := ⟨gb248, 0, none⟩) (Kd.R_types HO243.out BK248.out (by decide)) (fun _ hk => hk.2) (.slice Ao65 t250.length co65)) (fun _ hk => hk.2) (.int .u64 (IntKind.u64.wrap (t237 + (IntKind.u64.wrap (a2)))))) (fun _ h_ => h_.1)))); (case side4 => exact (Kd.R_reads' HO243.out).2.1); rintro e w71 ⟨rfl, hb⟩; refine ⟨_, rfl, ?_⟩; have n0_ := Aside0.mk (Kd.R_below (by (with_reducible repeat (first | apply Kd.R_alloc | apply Kd.R_drewN | apply Kd.R_drew)); exact (Kd.R_mono (Kd.R_far (p := ⟨gb248, 1, none⟩) (Kd.R_far (p := ⟨gb248, 0, none⟩) (Kd.R_types HO236.out BK248.out (by decide)) (fun _ hk => hk.2) (.slice Ao65 t250.length co65)) (fun _ hk => hk.2) (.int .u64 (IntKind.u64.wrap (t237 + (IntKind.u64.wrap (a2)))))) (fun _ h_ => h_.1))) hb); have n1_ := Aside0.mk (Kd.R_below (by (with_reducible repeat (first | apply Kd.R_alloc | apply Kd.R_drewN | apply Kd.R_drew)); exact (Kd.R_mono (Kd.R_far (p := ⟨gb248, 1, none⟩) (Kd.R_far (p := ⟨gb248, 0, none⟩) (Kd.R_types HO243.out BK248.out (by decide)) (fun _ hk => hk.2) (.slice Ao65 t250.length co65)) (fun _ hk => hk.2) (.int .u64 (IntKind.u64.wrap (t237 + (IntKind.u64.wrap (a2)))))) (fun _ h_ => h_.1))) hb); have n2_ := Aside0.mk (Kd.R_below (by (with_reducible repeat (first | apply Kd.R_alloc | apply Kd.R_drewN | apply Kd.R_drew)); exact (Kd.R_mono (Kd.R_far (p := ⟨gb248, 1, none⟩) (Kd.R_far (p := ⟨gb248, 0, none⟩) (Kd.R_types HO252.out BK248.out (by decide)) (fun _ hk => hk.2) (.slice Ao65 t250.length co65)) (fun _ hk => hk.2) (.int .u64 (IntKind.u64.wrap (t237 + (IntKind.u64.wrap (a2)))))) (fun _ h_ => h_.1))) hb); have n3_ := Aside0.mk (blk_below (g := gb248) (o := .cells #[.slice Ao65 t250.length co65, .int .u64 (IntKind.u64.wrap (t237 + (IntKind.u64.wrap (a2)))), .int .u64 t238, .int .i64 t239, .int .i64 t240] 36 (0, 0)) (by (with_reducible repeat (first | refine blk_drewN ?_ _ | refine blk_drew ?_ | refine blk_alloc ?_ _)); refine blk_put (cs := #[.slice Ao65 t250.length co65, .int .u64 t237, .int .u64 t238, .int .i64 t239, .int .i64 t240]) ?_ 1 _ rfl; (with_reducible repeat (first | refine blk_drewN ?_ _ | refine blk_drew ?_ | refine blk_alloc ?_ _)); refine blk_put (cs := #[.slice Ao50 t234.length co50, .int .u64 t237, .int .u64 t238, .int .i64 t239, .int .i64 t240]) ?_ 0 _ rfl; (with_reducible repeat (first | refine blk_drewN ?_ _ | refine blk_drew ?_ | refine blk_alloc ?_ _)); exact BK248.out) hb); have n4_ := Aside0.mk (blk_below (g := gb249) (o := .cells #[.slice Ao56 t241.length co56, .int .u64 t244, .int .u64 t245, .int .i64 t246, .int .i64 t247] 36 (0, 0)) (by (with_reducible repeat (first | refine blk_drewN ?_ _ | refine blk_drew ?_ | refine blk_alloc ?_ _)); refine blk_far ?_ NB249_248.out _; (with_reducible repeat (first | refine blk_drewN ?_ _ | refine blk_drew ?_ | refine blk_alloc ?_ _)); refine blk_far ?_ NB249_248.out _; (with_reducible repeat (first | refine blk_drewN ?_ _ | refine blk_drew ?_ | refine blk_alloc ?_ _)); exact BK249.out) hb); have n5_ := Aside0.mk (below_step (by repeat (first | (with_reducible first | exact HB.out | apply below_alloc | apply pw_below_drewN | apply below_drew1 | refine below_set ?_ GE248.out | refine below_set ?_ GE249.out) | exact HB.out)) hb); clear HO236; clear HO243; clear HO252; clear BK248; clear BK249; clear HB; have HO236 := n0_; have HO243 := n1_; have HO252 := n2_; have BK248 := n3_; have BK249 := n4_; have HB := n5_; clear n0_ n1_ n2_ n3_ n4_ n5_; (try clear hb); (try clear hb2); (try clear hk); (try clear hi)))
            go_ret
            exact ⟨by first | rfl | (simp [errW_none, errW_some] <;> rfl) | (simp only [← hji10]; first | rfl | (simp [errW_none, errW_some] <;> rfl)) | (simp [*, errW_none, errW_some] <;> rfl), by repeat (first | (with_reducible first | exact HB.out | apply below_alloc | apply pw_below_drewN | apply below_drew1 | refine below_set ?_ GE248.out | refine below_set ?_ GE249.out) | exact HB.out)⟩
        · rw [if_neg c9] at H
          exact absurd H (by simp)

/-- THE ONE PURE STATEMENT of laws_FnProofNodesScaled: yours. -/
def laws_FnProofNodesScaled.Pure : Prop := ∀ (a0 : Int) (a1 : Int) (a2 : Int), (Lit.int .u64 a0).wf = true → (Lit.int .u64 a1).wf = true → (Lit.int .i64 a2).wf = true → ∃ k, laws_FnProofNodesScaled.f k a0 a1 a2 = some true
theorem laws_FnProofNodesScaled.walk (P : laws_FnProofNodesScaled.Pure) (a0 : Int) (a1 : Int) (a2 : Int) (w : World) (HG_ : Glob w) (w0 : (Lit.int .u64 a0).wf = true) (w1 : (Lit.int .u64 a1).wf = true) (w2 : (Lit.int .i64 a2).wf = true) :
    Calls Tryd.prog 4 #[.int .u64 a0, .int .u64 a1, .int .i64 a2] w fun e w' => e = .returned (.bool true) ∧ Below w.heap.size w w' := by
  obtain ⟨k, h⟩ := P a0 a1 a2 w0 w1 w2
  refine (laws_FnProofNodesScaled.calls k a0 a1 a2 true w HG_ h).mono ?_
  rintro e w' ⟨rfl, hd⟩
  exact ⟨rfl, hd⟩

end Go.Proofs.YtmcelgfekffinaaDoor.Qt
