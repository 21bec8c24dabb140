-- Written by wip/tools/myprint.py for this seat (the kit's print with changes); Lean checks it.
import Derived.Test.YtfhcpniibiobgaaDoorQfx0
import Derived.Test.YtfhcpniibiobgaaDoorQfx2
import Derived.Test.YtfhcpniibiobgaaDoorQfx3
namespace Go.Proofs.YtfhcpniibiobgaaDoor.Qf
open Go.RowKit Go.Proofs.YtfhcpniibiobgaaDoorW.PrintWords Go.Proofs.YtfhcpniibiobgaaDoorW.PrintLast Go.Proofs.YtfhcpniibiobgaaDoorW.PrintMore
attribute [local go_sem] max2_int min2_int max_two min_two max_three min_three max_four min_four
set_option linter.unusedVariables false
set_option linter.unusedSimpArgs false
mutual
def compact_RangeNodes.l0 : Nat → List (S108) → Int → Int → Int → Option ((List (S108)))
  | 0, _, _, _, _ => none
  | k + 1, x2, x7, x8, x9 => if x7 = 0 then (compact_RangeNodes.l1 k x2 x8 x9) else ((bits_TrailingZeros64.f x7).bind fun t178 => (if 0 ≤ (IntKind.u64.wrap (t178)) then ((compact_NewNodeID.f (IntKind.u64.wrap (t178)) (shr .u64 x9 (IntKind.u64.wrap (t178)))).bind fun bt179 => (if x2.length < 8796093022208 then (compact_RangeNodes.l0 k (x2 ++ [(⟨bt179.1, bt179.2⟩ : S108)]) (Go.bits .xor .u64 x7 (shl .u64 1 (IntKind.u64.wrap (t178)))) x8 (IntKind.u64.wrap (x9 + (shl .u64 1 (IntKind.u64.wrap (t178)))))) else (none))) else (none)))
def compact_RangeNodes.l1 : Nat → List (S108) → Int → Int → Option ((List (S108)))
  | 0, _, _, _ => none
  | k + 1, x2, x8, x9 => if x8 = 0 then (some x2) else ((bits_Len64.f x8).bind fun t184 => (if 0 ≤ (IntKind.u64.wrap ((IntKind.u64.wrap (t184)) - 1)) then ((compact_NewNodeID.f (IntKind.u64.wrap ((IntKind.u64.wrap (t184)) - 1)) (shr .u64 x9 (IntKind.u64.wrap ((IntKind.u64.wrap (t184)) - 1)))).bind fun bt185 => (if x2.length < 8796093022208 then (compact_RangeNodes.l1 k (x2 ++ [(⟨bt185.1, bt185.2⟩ : S108)]) (Go.bits .xor .u64 x8 (shl .u64 1 (IntKind.u64.wrap ((IntKind.u64.wrap (t184)) - 1)))) (IntKind.u64.wrap (x9 + (shl .u64 1 (IntKind.u64.wrap ((IntKind.u64.wrap (t184)) - 1)))))) else (none))) else (none)))
end
def compact_RangeNodes.f (k : Nat) (a0 : Int) (a1 : Int) (l2 : List (S108)) : Option ((List (S108))) := (compact_Decompose.f a0 a1).bind fun bt176 => (compact_RangeNodes.l0 k l2 bt176.1 bt176.2 a0)
theorem compact_RangeNodes.mono_l : ∀ k, (∀ y0 y1 y2 y3, LeO (compact_RangeNodes.l0 k y0 y1 y2 y3) (compact_RangeNodes.l0 (k + 1) y0 y1 y2 y3)) ∧ (∀ y0 y1 y2, LeO (compact_RangeNodes.l1 k y0 y1 y2) (compact_RangeNodes.l1 (k + 1) y0 y1 y2))
  | 0 => ⟨fun _ _ _ _ r h => by simp [compact_RangeNodes.l0] at h, fun _ _ _ r h => by simp [compact_RangeNodes.l1] at h⟩
  | k + 1 => by
    obtain ⟨ih0, ih1⟩ := compact_RangeNodes.mono_l k
    refine ⟨?_, ?_⟩
    · intro y0 y1 y2 y3
      unfold compact_RangeNodes.l0
      repeat' first
      | (with_reducible exact ih0 _ _ _ _)
      | (with_reducible exact ih1 _ _ _)
      | (with_reducible exact LeO.refl _)
      | (with_reducible exact LeO.none _)
      | (with_reducible refine LeO.ite ?_ ?_)
      | (with_reducible refine LeO.bind ?_ (fun _ => ?_))
      | exact LeO.none _
      | refine LeO.ite ?_ ?_
      | refine LeO.bind ?_ (fun _ => ?_)
    · intro y0 y1 y2
      unfold compact_RangeNodes.l1
      repeat' first
      | (with_reducible exact ih0 _ _ _ _)
      | (with_reducible exact ih1 _ _ _)
      | (with_reducible exact LeO.refl _)
      | (with_reducible exact LeO.none _)
      | (with_reducible refine LeO.ite ?_ ?_)
      | (with_reducible refine LeO.bind ?_ (fun _ => ?_))
      | exact LeO.none _
      | refine LeO.ite ?_ ?_
      | refine LeO.bind ?_ (fun _ => ?_)
theorem compact_RangeNodes.mono : ∀ a0 a1 a2 k, LeO (compact_RangeNodes.f k a0 a1 a2) (compact_RangeNodes.f (k + 1) a0 a1 a2) := by
  intro a0 a1 a2 k
  obtain ⟨ih0, ih1⟩ := compact_RangeNodes.mono_l k
  unfold compact_RangeNodes.f
  repeat' first
      | (with_reducible exact ih0 _ _ _ _)
      | (with_reducible exact ih1 _ _ _)
      | (with_reducible exact LeO.refl _)
      | (with_reducible exact LeO.none _)
      | (with_reducible refine LeO.ite ?_ ?_)
      | (with_reducible refine LeO.bind ?_ (fun _ => ?_))
      | exact LeO.none _
      | refine LeO.ite ?_ ?_
      | refine LeO.bind ?_ (fun _ => ?_)
set_option maxHeartbeats 8000000 in
set_option maxRecDepth 100000 in
theorem compact_RangeNodes.calls (k : Nat) (a0 : Int) (a1 : Int) (P2_ : Nat → Prop) (u9000_ : Value) (l2 : List (S108)) (r : List (S108)) (w0 w : World) (hB : Below w0.heap.size w0 w) (ho2 : Kd.R k108 108 w w0.heap.size P2_ u9000_ l2) (HG_ : Glob w0) (h : compact_RangeNodes.f k a0 a1 l2 = some r) :
    Calls Tryd.prog 105 #[.int .u64 a0, .int .u64 a1, u9000_] w fun e w' => ∃ v0_ : Value, e = .returned (v0_) ∧ Kd.R k108 108 w' w0.heap.size (fun k_ => (P2_ k_ ∨ w.heap.size ≤ k_)) v0_ r ∧ Below w0.heap.size w0 w' ∧ Kept w w' (fun k_ => P2_ k_) := by
  have HG := aq HG_
  clear HG_
  have HO2 := aq (show Kd.R k108 108 w w0.heap.size (fun k_ => (P2_ k_ ∨ w.heap.size ≤ k_)) u9000_ l2 from Kd.R_mono ho2 (fun k_ hk => (.inl hk)))
  have HK := aq (Kept.refl w (fun k_ => P2_ k_))
  have HW0 := aq hB.size
  have HB := aq hB
  clear hB
  have H : ((compact_Decompose.f a0 a1).bind fun bt176 => (compact_RangeNodes.l0 k l2 bt176.1 bt176.2 a0)) = some r := h
  clear h
  replace H := Option.bind_eq_some_iff.mp H
  obtain ⟨⟨t176, t177⟩, A40, H⟩ := H
  have A4 := aq A40
  clear A40
  have H' := aq H
  clear H
  go_enter Tryd.func105, Tryd.ntmps105
  go_wp2_with (first | ((with_reducible refine gate_callee (f := 112) rfl ?_); refine gL 17 Tryd.func112 #[.int .u64 a0, .int .u64 a1] ?_; (with_reducible refine (compact_Decompose.calls a0 a1 t176 t177 _ A4.out).mono ?_); rintro e w' ⟨rfl, ⟨nd, rfl⟩⟩; refine ⟨_, rfl, ?_⟩))
  (try simp only [Act.put, List.setIfInBounds_toArray, List.set_cons_zero, List.set_cons_succ])
  go_loopg [2, 7, 9] k (fun kq v2 v7 v9 w' => ∃ (x2_1 : List (S108)) (x7_1 : Int) (x9_1 : Int), v7 = .int .u64 x7_1 ∧ v9 = .int .u64 x9_1 ∧ Aside0 (compact_RangeNodes.l0 kq x2_1 x7_1 t177 x9_1 = some r) ∧ Aside0 (kq ≤ k) ∧ Aside0 (Kd.R k108 108 w' w0.heap.size (fun k_ => (P2_ k_ ∨ w.heap.size ≤ k_)) v2 x2_1) ∧ Aside0 (Kept w w' (fun k_ => P2_ k_)) ∧ Aside0 (Below w0.heap.size w0 w'))
  case atStart => exact ⟨(l2), (t176), (a0), (by first | rfl | (simp; done) | (simp [*]; done)), (by first | rfl | (simp; done) | (simp [*]; done)), H', ⟨Nat.le_refl _⟩, ⟨by (with_reducible repeat (first | apply Kd.R_alloc | apply Kd.R_drewN | apply Kd.R_drew)); exact HO2.out⟩, ⟨by repeat (first | (with_reducible first | exact HK.out | apply Kept.alloc | apply Kept.drewN | apply Kept.drew) | exact HK.out)⟩, ⟨by repeat (first | (with_reducible first | exact HB.out | apply below_alloc | apply pw_below_drewN | apply below_drew1) | exact HB.out)⟩⟩
  case round =>
    clear H'
    try clear c1
    try clear p2
    obtain ⟨x2_1, x7_1, x9_1, rfl, rfl, HA, HK1, HO_2, HK, HB⟩ := hrel
    cases gk with
    | zero => exact absurd HA.out (by simp [compact_RangeNodes.l0])
    | succ k1 =>
      have H := HA.out
      clear HA
      simp only [compact_RangeNodes.l0] at H
      by_cases c5 : x7_1 = 0
      · rw [if_pos c5] at H
        have c5b0 : (x7_1 == 0) = true := beq_iff_eq.mpr c5
        have c5b1 : (x7_1 != 0) = false := bne_eq_false_iff_eq.mpr c5
        clear c5
        have H' := aq H
        clear H
        go_wp2
        (try simp only [Act.put, List.setIfInBounds_toArray, List.set_cons_zero, List.set_cons_succ])
        go_loopg [2, 8, 9] k1 (fun kq v2 v8 v9 w' => ∃ (x2_2 : List (S108)) (x8_2 : Int) (x9_2 : Int), v8 = .int .u64 x8_2 ∧ v9 = .int .u64 x9_2 ∧ Aside0 (compact_RangeNodes.l1 kq x2_2 x8_2 x9_2 = some r) ∧ Aside0 (kq ≤ k1) ∧ Aside0 (Kd.R k108 108 w' w0.heap.size (fun k_ => (P2_ k_ ∨ w.heap.size ≤ k_)) v2 x2_2) ∧ Aside0 (Kept w w' (fun k_ => P2_ k_)) ∧ Aside0 (Below w0.heap.size w0 w'))
        case atStart => exact ⟨(x2_1), (t177), (x9_1), (by first | rfl | (simp; done) | (simp [*]; done)), (by first | rfl | (simp; done) | (simp [*]; done)), H', ⟨Nat.le_refl _⟩, ⟨by (with_reducible repeat (first | apply Kd.R_alloc | apply Kd.R_drewN | apply Kd.R_drew)); exact HO_2.out⟩, ⟨by repeat (first | (with_reducible first | exact HK.out | apply Kept.alloc | apply Kept.drewN | apply Kept.drew) | exact HK.out)⟩, ⟨by repeat (first | (with_reducible first | exact HB.out | apply below_alloc | apply pw_below_drewN | apply below_drew1) | exact HB.out)⟩⟩
        case round =>
          clear H'
          try clear c1
          try clear p2
          try clear c5
          try clear c5b0
          try clear c5b1
          try clear p2
          obtain ⟨x2_2, x8_2, x9_2, rfl, rfl, HA, HK2, HO_2, HK, HB⟩ := hrel
          cases gk with
          | zero => exact absurd HA.out (by simp [compact_RangeNodes.l1])
          | succ k2 =>
            have H := HA.out
            clear HA
            simp only [compact_RangeNodes.l1] at H
            by_cases c6 : x8_2 = 0
            · rw [if_pos c6] at H
              have c6b0 : (x8_2 == 0) = true := beq_iff_eq.mpr c6
              have c6b1 : (x8_2 != 0) = false := bne_eq_false_iff_eq.mpr c6
              clear c6
              obtain rfl := Option.some.inj H
              go_wp2
              go_ret
              exact ⟨_, by first | rfl | (simp [errW_none, errW_some] <;> rfl) | (simp [*, errW_none, errW_some] <;> rfl), by (with_reducible repeat (first | apply Kd.R_alloc | apply Kd.R_drewN | apply Kd.R_drew)); exact HO_2.out, by repeat (first | (with_reducible first | exact HB.out | apply below_alloc | apply pw_below_drewN | apply below_drew1) | exact HB.out), by repeat (first | (with_reducible first | exact HK.out | apply Kept.alloc | apply Kept.drewN | apply Kept.drew) | exact HK.out)⟩
            · rw [if_neg c6] at H
              have c6b0 : (x8_2 == 0) = false := beq_eq_false_iff_ne.mpr c6
              have c6b1 : (x8_2 != 0) = true := bne_iff_ne.mpr c6
              replace H := Option.bind_eq_some_iff.mp H
              obtain ⟨t184, A70, H⟩ := H
              have A7 := aq A70
              clear A70
              obtain ⟨ji8, hji8⟩ : ∃ j_ : Int, (IntKind.u64.wrap ((IntKind.u64.wrap (t184)) - 1)) = j_ := ⟨_, rfl⟩
              first | rw [hji8] at H | simp only [hji8] at H
              (try rw [hji8] at A7)
              by_cases c9 : 0 ≤ (ji8)
              · rw [if_pos c9] at H
                have c9b0 := eq_true c9
                have c9b1 : decide (0 ≤ (ji8)) = true := decide_eq_true c9
                clear c9
                obtain ⟨ji10, hji10⟩ : ∃ j_ : Int, (shl .u64 1 (ji8)) = j_ := ⟨_, rfl⟩
                first | rw [hji10] at H | simp only [hji10] at H
                (try rw [hji10] at A7)
                have hji10_ : (IntKind.u64.wrap (1 * 2 ^ min (ji8).toNat 64)) = ji10 := hji10
                have hji10z : (ji8) ≤ 64 → (IntKind.u64.wrap (1 * 2 ^ (ji8).toNat)) = ji10 := shl_small hji10
                have hji10u : (IntKind.u64.wrap (2 ^ min (ji8).toNat 64)) = ji10 := by have h_ := hji10_; rw [Int.one_mul] at h_; exact h_
                have hji10v : (ji8) ≤ 64 → (IntKind.u64.wrap (2 ^ (ji8).toNat)) = ji10 := fun hle_ => by have h_ := hji10z hle_; rw [Int.one_mul] at h_; exact h_
                have c11b0 := eq_true (of_decide_eq_true (by first | (with_reducible assumption) | assumption) : 0 ≤ (ji8))
                obtain ⟨ji12, hji12⟩ : ∃ j_ : Int, (shr .u64 x9_2 (ji8)) = j_ := ⟨_, rfl⟩
                first | rw [hji12] at H | simp only [hji12] at H
                (try rw [hji12] at A7)
                have hji12_ : (x9_2 / 2 ^ min (ji8).toNat 64) = ji12 := hji12
                have hji12z : (ji8) ≤ 64 → (x9_2 / 2 ^ (ji8).toNat) = ji12 := shr_small hji12
                replace H := Option.bind_eq_some_iff.mp H
                obtain ⟨⟨t185, t186⟩, A130, H⟩ := H
                have A13 := aq A130
                clear A130
                by_cases c14 : x2_2.length < 8796093022208
                · rw [if_pos c14] at H
                  have LMc14 := aq c14
                  clear c14
                  obtain ⟨y187, hy187⟩ : ∃ y_ : List (S108), y_ = (x2_2 ++ [(⟨t185, t186⟩ : S108)]) := ⟨_, rfl⟩
                  replace H : (compact_RangeNodes.l1 k2 y187 (Go.bits .xor .u64 x8_2 (ji10)) (IntKind.u64.wrap (x9_2 + (ji10)))) = some r := by first | (rw [hy187]; with_reducible exact H) | (have H2_ := (Option.bind_some _ _).symm.trans H; rw [hy187]; with_reducible exact H2_) | (have H2_ := (Option.bind_some _ _).symm.trans H; with_reducible exact H2_) | with_reducible exact H | (rw [hy187]; exact H) | exact H
                  have Ny187 := aq hy187
                  clear hy187
                  have H' := aq H
                  clear H
                  go_wp2_with (first | ((with_reducible refine gate_callee (f := 116) rfl ?_); refine gL 51 Tryd.func116 #[.int .u64 x8_2] ?_; (with_reducible refine (bits_Len64.calls x8_2 t184 _ A7.out).mono ?_); rintro e w' ⟨rfl, ⟨nd, rfl⟩⟩; refine ⟨_, rfl, ?_⟩) | ((with_reducible refine gate_callee (f := 90) rfl ?_); refine goesL_ (some 61) rfl rfl Tryd.func90 (by kernel_rfl) rfl #[.int .u64 ji8, .int .u64 ji12] rfl (by (try simp only [List.map_toArray, List.map_cons, List.map_nil]); first | done | (simp only [hji12, hji8]; rfl) | rfl | (simp only [List.length_drop, List.length_take]; rfl)) ?_; (with_reducible refine (compact_NewNodeID.calls ji8 ji12 t185 t186 _ A13.out).mono ?_); rintro e w15 ⟨rfl, hb⟩; refine ⟨_, rfl, ?_⟩; replace HO_2 := aq (Kd.R_below (rq HO_2) hb); replace HK := aq (Kept.below (S := (fun k_ => P2_ k_)) (by repeat (first | (with_reducible first | exact HK.out | apply Kept.alloc | apply Kept.drewN | apply Kept.drew) | exact HK.out)) hb); replace HB := aq (below_step (bw HB) hb); (try clear hb); (try clear hk)) | ((with_reducible refine gate_builtin (b := .append) (xs := #[.tmp 56, .tmp 62]) rfl ?_); at_builtin; refine Kd.R_append k108 (w0 := w0) w0.heap.size rfl (.tmp 56) (.tmp 62) 130 108 (.agg #[(.int .u64 0), (.int .u64 0)]) 16 rfl Tryd.underlying130 info108 rfl (by decide) (by omega) u2 x2_2 (⟨t185, t186⟩ : S108) [.int .u64 t185, .int .u64 t186] (fun k_ => (P2_ k_ ∨ w.heap.size ≤ k_)) (fun _ => False) rfl rfl ?aP (fun _ hk => hk.elim) ?aF ?aO ?aB ?aS ?aL ?_; (case aP => exact k108_mkM _ _ _ (⟨t185, t186⟩ : S108)); (case aB => exact (bw HB)); (case aF => exact (fun k_ hk => (.inr (Nat.le_trans (by first | exact HK.out.1 | exact (show Kept w _ (fun k_ => P2_ k_) from by repeat (first | (with_reducible first | exact HK.out | apply Kept.alloc | apply Kept.drewN | apply Kept.drew) | exact HK.out)).1) hk)))); (case aO => exact (rq HO_2)); (case aS => exact (below_size (bw HB))); (case aL => have := LMc14.out; omega); intro v188 w16 ho hb hg hat; rw [← Ny187.out] at ho; have HO189 := aq (ho); replace HB := aq (hb); replace HK := aq (Kept.of_grown (S := (fun k_ => P2_ k_)) hg (by repeat (first | (with_reducible first | exact HK.out | apply Kept.alloc | apply Kept.drewN | apply Kept.drew) | exact HK.out)) (fun k_ e_ => (HO_2.out.1 k_ e_))); clear HO_2; clear ho hb hg hat))
                  go_roundg k2
                  case measure => have := HK1.out; have := HK2.out; omega
                  case rel => exact ⟨(y187), (Go.bits .xor .u64 x8_2 (ji10)), (IntKind.u64.wrap (x9_2 + (ji10))), (by first | rfl | (simp; done) | (simp only [← hji10] <;> (first | rfl | simp)) | (simp [*]; done)), (by first | rfl | (simp; done) | (simp only [← hji10] <;> (first | rfl | simp)) | (simp [*]; done)), H', ⟨by have := HK1.out; have := HK2.out; omega⟩, ⟨by (with_reducible repeat (first | apply Kd.R_alloc | apply Kd.R_drewN | apply Kd.R_drew)); exact HO189.out⟩, ⟨by repeat (first | (with_reducible first | exact HK.out | apply Kept.alloc | apply Kept.drewN | apply Kept.drew) | exact HK.out)⟩, ⟨by repeat (first | (with_reducible first | exact HB.out | apply below_alloc | apply pw_below_drewN | apply below_drew1) | exact HB.out)⟩⟩
                · rw [if_neg c14] at H
                  exact absurd H (by simp)
              · rw [if_neg c9] at H
                exact absurd H (by simp)
      · rw [if_neg c5] at H
        have c5b0 : (x7_1 == 0) = false := beq_eq_false_iff_ne.mpr c5
        have c5b1 : (x7_1 != 0) = true := bne_iff_ne.mpr c5
        replace H := Option.bind_eq_some_iff.mp H
        obtain ⟨t178, A170, H⟩ := H
        have A17 := aq A170
        clear A170
        obtain ⟨ji18, hji18⟩ : ∃ j_ : Int, (IntKind.u64.wrap (t178)) = j_ := ⟨_, rfl⟩
        first | rw [hji18] at H | simp only [hji18] at H
        (try rw [hji18] at A17)
        by_cases c19 : 0 ≤ (ji18)
        · rw [if_pos c19] at H
          have c19b0 := eq_true c19
          have c19b1 : decide (0 ≤ (ji18)) = true := decide_eq_true c19
          clear c19
          obtain ⟨ji20, hji20⟩ : ∃ j_ : Int, (shl .u64 1 (ji18)) = j_ := ⟨_, rfl⟩
          first | rw [hji20] at H | simp only [hji20] at H
          (try rw [hji20] at A17)
          have hji20_ : (IntKind.u64.wrap (1 * 2 ^ min (ji18).toNat 64)) = ji20 := hji20
          have hji20z : (ji18) ≤ 64 → (IntKind.u64.wrap (1 * 2 ^ (ji18).toNat)) = ji20 := shl_small hji20
          have hji20u : (IntKind.u64.wrap (2 ^ min (ji18).toNat 64)) = ji20 := by have h_ := hji20_; rw [Int.one_mul] at h_; exact h_
          have hji20v : (ji18) ≤ 64 → (IntKind.u64.wrap (2 ^ (ji18).toNat)) = ji20 := fun hle_ => by have h_ := hji20z hle_; rw [Int.one_mul] at h_; exact h_
          have c21b0 := eq_true (of_decide_eq_true (by first | (with_reducible assumption) | assumption) : 0 ≤ (ji18))
          obtain ⟨ji22, hji22⟩ : ∃ j_ : Int, (shr .u64 x9_1 (ji18)) = j_ := ⟨_, rfl⟩
          first | rw [hji22] at H | simp only [hji22] at H
          (try rw [hji22] at A17)
          have hji22_ : (x9_1 / 2 ^ min (ji18).toNat 64) = ji22 := hji22
          have hji22z : (ji18) ≤ 64 → (x9_1 / 2 ^ (ji18).toNat) = ji22 := shr_small hji22
          replace H := Option.bind_eq_some_iff.mp H
          obtain ⟨⟨t179, t180⟩, A230, H⟩ := H
          have A23 := aq A230
          clear A230
          by_cases c24 : x2_1.length < 8796093022208
          · rw [if_pos c24] at H
            have LMc24 := aq c24
            clear c24
            obtain ⟨y181, hy181⟩ : ∃ y_ : List (S108), y_ = (x2_1 ++ [(⟨t179, t180⟩ : S108)]) := ⟨_, rfl⟩
            replace H : (compact_RangeNodes.l0 k1 y181 (Go.bits .xor .u64 x7_1 (ji20)) t177 (IntKind.u64.wrap (x9_1 + (ji20)))) = some r := by first | (rw [hy181]; with_reducible exact H) | (have H2_ := (Option.bind_some _ _).symm.trans H; rw [hy181]; with_reducible exact H2_) | (have H2_ := (Option.bind_some _ _).symm.trans H; with_reducible exact H2_) | with_reducible exact H | (rw [hy181]; exact H) | exact H
            have Ny181 := aq hy181
            clear hy181
            have H' := aq H
            clear H
            go_wp2_with (first | ((with_reducible refine gate_callee (f := 89) rfl ?_); refine gL 30 Tryd.func89 #[.int .u64 x7_1] ?_; (with_reducible refine (bits_TrailingZeros64.calls x7_1 t178 _ ?side1 A17.out).mono ?_); (case side1 => first | exact HG.out | exact Glob.drewN HG.out _ | exact Glob.below HG.out (bw HB)); rintro e w' ⟨rfl, ⟨nd, rfl⟩⟩; refine ⟨_, rfl, ?_⟩) | ((with_reducible refine gate_callee (f := 90) rfl ?_); refine goesL_ (some 39) rfl rfl Tryd.func90 (by kernel_rfl) rfl #[.int .u64 ji18, .int .u64 ji22] rfl (by (try simp only [List.map_toArray, List.map_cons, List.map_nil]); first | done | (simp only [hji18, hji22]; rfl) | rfl | (simp only [List.length_drop, List.length_take]; rfl)) ?_; (with_reducible refine (compact_NewNodeID.calls ji18 ji22 t179 t180 _ A23.out).mono ?_); rintro e w25 ⟨rfl, hb⟩; refine ⟨_, rfl, ?_⟩; replace HO_2 := aq (Kd.R_below (rq HO_2) hb); replace HK := aq (Kept.below (S := (fun k_ => P2_ k_)) (by repeat (first | (with_reducible first | exact HK.out | apply Kept.alloc | apply Kept.drewN | apply Kept.drew) | exact HK.out)) hb); replace HB := aq (below_step (bw HB) hb); (try clear hb); (try clear hk)) | ((with_reducible refine gate_builtin (b := .append) (xs := #[.tmp 34, .tmp 40]) rfl ?_); at_builtin; refine Kd.R_append k108 (w0 := w0) w0.heap.size rfl (.tmp 34) (.tmp 40) 130 108 (.agg #[(.int .u64 0), (.int .u64 0)]) 16 rfl Tryd.underlying130 info108 rfl (by decide) (by omega) u2 x2_1 (⟨t179, t180⟩ : S108) [.int .u64 t179, .int .u64 t180] (fun k_ => (P2_ k_ ∨ w.heap.size ≤ k_)) (fun _ => False) rfl rfl ?aP (fun _ hk => hk.elim) ?aF ?aO ?aB ?aS ?aL ?_; (case aP => exact k108_mkM _ _ _ (⟨t179, t180⟩ : S108)); (case aB => exact (bw HB)); (case aF => exact (fun k_ hk => (.inr (Nat.le_trans (by first | exact HK.out.1 | exact (show Kept w _ (fun k_ => P2_ k_) from by repeat (first | (with_reducible first | exact HK.out | apply Kept.alloc | apply Kept.drewN | apply Kept.drew) | exact HK.out)).1) hk)))); (case aO => exact (rq HO_2)); (case aS => exact (below_size (bw HB))); (case aL => have := LMc24.out; omega); intro v182 w26 ho hb hg hat; rw [← Ny181.out] at ho; have HO183 := aq (ho); replace HB := aq (hb); replace HK := aq (Kept.of_grown (S := (fun k_ => P2_ k_)) hg (by repeat (first | (with_reducible first | exact HK.out | apply Kept.alloc | apply Kept.drewN | apply Kept.drew) | exact HK.out)) (fun k_ e_ => (HO_2.out.1 k_ e_))); clear HO_2; clear ho hb hg hat))
            go_roundg k1
            case measure => have := HK1.out; omega
            case rel => exact ⟨(y181), (Go.bits .xor .u64 x7_1 (ji20)), (IntKind.u64.wrap (x9_1 + (ji20))), (by first | rfl | (simp; done) | (simp only [← hji20] <;> (first | rfl | simp)) | (simp [*]; done)), (by first | rfl | (simp; done) | (simp only [← hji20] <;> (first | rfl | simp)) | (simp [*]; done)), H', ⟨by have := HK1.out; omega⟩, ⟨by (with_reducible repeat (first | apply Kd.R_alloc | apply Kd.R_drewN | apply Kd.R_drew)); exact HO183.out⟩, ⟨by repeat (first | (with_reducible first | exact HK.out | apply Kept.alloc | apply Kept.drewN | apply Kept.drew) | exact HK.out)⟩, ⟨by repeat (first | (with_reducible first | exact HB.out | apply below_alloc | apply pw_below_drewN | apply below_drew1) | exact HB.out)⟩⟩
          · rw [if_neg c24] at H
            exact absurd H (by simp)
        · rw [if_neg c19] at H
          exact absurd H (by simp)
def compact_NodeID_Coverage.f (a0_0 : Int) (a0_1 : Int) : Option (Int × Int) := if 0 ≤ a0_0 then (some (shl .u64 a0_1 a0_0, shl .u64 (IntKind.u64.wrap (a0_1 + 1)) a0_0)) else (none)
set_option maxHeartbeats 8000000 in
set_option maxRecDepth 100000 in
theorem compact_NodeID_Coverage.calls (a0_0 : Int) (a0_1 : Int) (r1 : Int) (r2 : Int) (w : World) (h : compact_NodeID_Coverage.f a0_0 a0_1 = some (r1, r2)) :
    Calls Tryd.prog 117 #[.agg #[.int .u64 a0_0, .int .u64 a0_1]] w fun e w' => e = .returned (.tuple #[.int .u64 r1, .int .u64 r2]) ∧ Below w.heap.size w w' := by
  have hu108 := Tryd.underlying108
  have HB := aq (Below.refl w.heap.size w)
  have H : (if 0 ≤ a0_0 then (some (shl .u64 a0_1 a0_0, shl .u64 (IntKind.u64.wrap (a0_1 + 1)) a0_0)) else (none)) = some (r1, r2) := h
  clear h
  by_cases c2 : 0 ≤ a0_0
  · rw [if_pos c2] at H
    have c2b0 := eq_true c2
    have c2b1 : decide (0 ≤ a0_0) = true := decide_eq_true c2
    clear c2
    obtain ⟨ji3, hji3⟩ : ∃ j_ : Int, (shl .u64 a0_1 a0_0) = j_ := ⟨_, rfl⟩
    first | rw [hji3] at H | simp only [hji3] at H
    have hji3_ : (IntKind.u64.wrap (a0_1 * 2 ^ min a0_0.toNat 64)) = ji3 := hji3
    have hji3z : a0_0 ≤ 64 → (IntKind.u64.wrap (a0_1 * 2 ^ a0_0.toNat)) = ji3 := shl_small hji3
    have c4b0 := eq_true (of_decide_eq_true (by first | (with_reducible assumption) | assumption) : 0 ≤ a0_0)
    obtain ⟨ji5, hji5⟩ : ∃ j_ : Int, (shl .u64 (IntKind.u64.wrap (a0_1 + 1)) a0_0) = j_ := ⟨_, rfl⟩
    first | rw [hji5] at H | simp only [hji5] at H
    have hji5_ : (IntKind.u64.wrap ((IntKind.u64.wrap (a0_1 + 1)) * 2 ^ min a0_0.toNat 64)) = ji5 := hji5
    have hji5z : a0_0 ≤ 64 → (IntKind.u64.wrap ((IntKind.u64.wrap (a0_1 + 1)) * 2 ^ a0_0.toNat)) = ji5 := shl_small hji5
    simp only [Option.some.injEq, Prod.mk.injEq] at H
    obtain ⟨rfl, rfl⟩ := H
    go_enter Tryd.func117, Tryd.ntmps117
    go_wp2_with (first | ((with_reducible refine gate_dst (N := 1) rfl ?_); refine be 1 #[.int .u64 a0_0, .int .u64 a0_1] 108 ?_; intro gb190 hg w6 hbox hb; have BK190 := aq (hbox); have GW190 := aq ((by rw [hg]; exact (below_size (bw HB)) : w.heap.size ≤ gb190)); have GE190 := aq ((by rw [hg]; exact (below_size (bw HB)) : w.heap.size ≤ gb190)); replace HB := aq (below_step (bw HB) hb); clear hb hbox hg; have hcz7_0 : w6.cell? ⟨gb190, 0, none⟩ = some (.int .u64 a0_0) := bc BK190 0; have hcz7_1 : w6.cell? ⟨gb190, 1, none⟩ = some (.int .u64 a0_1) := bc BK190 1; have hfz7_0 := bz BK190 0; have hfz7_1 := bz BK190 1))
    repeat (go_quiet (first | ((with_reducible refine gate_dst (N := 1) rfl ?_); refine be 1 #[.int .u64 a0_0, .int .u64 a0_1] 108 ?_; intro gb190 hg w6 hbox hb; have BK190 := aq (hbox); have GW190 := aq ((by rw [hg]; exact (below_size (bw HB)) : w.heap.size ≤ gb190)); have GE190 := aq ((by rw [hg]; exact (below_size (bw HB)) : w.heap.size ≤ gb190)); replace HB := aq (below_step (bw HB) hb); clear hb hbox hg; have hcz7_0 : w6.cell? ⟨gb190, 0, none⟩ = some (.int .u64 a0_0) := bc BK190 0; have hcz7_1 : w6.cell? ⟨gb190, 1, none⟩ = some (.int .u64 a0_1) := bc BK190 1; have hfz7_0 := bz BK190 0; have hfz7_1 := bz BK190 1)); try go_wp2_with (first | ((with_reducible refine gate_dst (N := 1) rfl ?_); refine be 1 #[.int .u64 a0_0, .int .u64 a0_1] 108 ?_; intro gb190 hg w6 hbox hb; have BK190 := aq (hbox); have GW190 := aq ((by rw [hg]; exact (below_size (bw HB)) : w.heap.size ≤ gb190)); have GE190 := aq ((by rw [hg]; exact (below_size (bw HB)) : w.heap.size ≤ gb190)); replace HB := aq (below_step (bw HB) hb); clear hb hbox hg; have hcz7_0 : w6.cell? ⟨gb190, 0, none⟩ = some (.int .u64 a0_0) := bc BK190 0; have hcz7_1 : w6.cell? ⟨gb190, 1, none⟩ = some (.int .u64 a0_1) := bc BK190 1; have hfz7_0 := bz BK190 0; have hfz7_1 := bz BK190 1)))
    go_ret2
    exact ⟨by first | rfl | (simp [errW_none, errW_some] <;> rfl) | (simp only [← hji3, ← hji5]; first | rfl | (simp [errW_none, errW_some] <;> rfl)) | (simp [*, errW_none, errW_some] <;> rfl), by repeat (first | (with_reducible first | exact HB.out | apply below_alloc | apply pw_below_drewN | apply below_drew1 | refine below_set ?_ GE190.out) | exact HB.out)⟩
  · rw [if_neg c2] at H
    exact absurd H (by simp)
def compact_NodeID_Sibling.f (a0_0 : Int) (a0_1 : Int) : Option (Int × Int) := (compact_NewNodeID.f a0_0 (Go.bits .xor .u64 a0_1 1)).bind fun bt193 => (some (bt193.1, bt193.2))
set_option maxHeartbeats 8000000 in
set_option maxRecDepth 100000 in
theorem compact_NodeID_Sibling.calls (a0_0 : Int) (a0_1 : Int) (r1 : Int) (r2 : Int) (w : World) (h : compact_NodeID_Sibling.f a0_0 a0_1 = some (r1, r2)) :
    Calls Tryd.prog 118 #[.agg #[.int .u64 a0_0, .int .u64 a0_1]] w fun e w' => e = .returned (.agg #[.int .u64 r1, .int .u64 r2]) ∧ Below w.heap.size w w' := by
  have hu108 := Tryd.underlying108
  have HB := aq (Below.refl w.heap.size w)
  have H : ((compact_NewNodeID.f a0_0 (Go.bits .xor .u64 a0_1 1)).bind fun bt193 => (some (bt193.1, bt193.2))) = some (r1, r2) := h
  clear h
  replace H := Option.bind_eq_some_iff.mp H
  obtain ⟨⟨t193, t194⟩, A20, H⟩ := H
  have A2 := aq A20
  clear A20
  simp only [Option.some.injEq, Prod.mk.injEq] at H
  obtain ⟨rfl, rfl⟩ := H
  go_enter Tryd.func118, Tryd.ntmps118
  go_wp2_with (first | ((with_reducible refine gate_dst (N := 1) rfl ?_); refine be 1 #[.int .u64 a0_0, .int .u64 a0_1] 108 ?_; intro gb191 hg w3 hbox hb; have BK191 := aq (hbox); have GW191 := aq ((by rw [hg]; exact (below_size (bw HB)) : w.heap.size ≤ gb191)); have GE191 := aq ((by rw [hg]; exact (below_size (bw HB)) : w.heap.size ≤ gb191)); replace HB := aq (below_step (bw HB) hb); clear hb hbox hg) | ((with_reducible refine gate_dst (N := 2) rfl ?_); refine be 2 #[.int .u64 0, .int .u64 0] 108 ?_; intro gb192 hg w4 hbox hb; have BK192 := aq (hbox); have GW192 := aq ((by rw [hg]; exact (below_size (bw HB)) : w.heap.size ≤ gb192)); have GE192 := aq ((by rw [hg]; exact (below_size (bw HB)) : w.heap.size ≤ gb192)); have NB191_192 := aq ((by rw [hg]; exact Nat.ne_of_lt (blk_lt (g := gb191) (o := .cells #[.int .u64 a0_0, .int .u64 a0_1] 108 (0, 0)) (bq BK191)) : gb191 ≠ gb192)); have NB192_191 := aq ((by rw [hg]; exact Nat.ne_of_gt (blk_lt (g := gb191) (o := .cells #[.int .u64 a0_0, .int .u64 a0_1] 108 (0, 0)) (bq BK191)) : gb192 ≠ gb191)); replace BK191 := aq (blk_below (bq BK191) hb); replace HB := aq (below_step (bw HB) hb); clear hb hbox hg; have hnb5 := NB191_192.out; have hnc5 := NB192_191.out; have hcz6_0 : w4.cell? ⟨gb191, 0, none⟩ = some (.int .u64 a0_0) := bc BK191 0; have hcz6_1 : w4.cell? ⟨gb191, 1, none⟩ = some (.int .u64 a0_1) := bc BK191 1; have hfz6_0 := bz BK191 0; have hfz6_1 := bz BK191 1) | ((with_reducible refine gate_callee (f := 90) rfl ?_); refine gL 8 Tryd.func90 #[.int .u64 a0_0, .int .u64 (Go.bits .xor .u64 a0_1 1)] ?_; (with_reducible refine (compact_NewNodeID.calls a0_0 (Go.bits .xor .u64 a0_1 1) t193 t194 _ A2.out).mono ?_); rintro e w7 ⟨rfl, hb⟩; refine ⟨_, rfl, ?_⟩; replace BK191 := aq (blk_below (bq BK191) hb); replace BK192 := aq (blk_below (bq BK192) hb); replace HB := aq (below_step (bw HB) hb); (try clear hb); (try clear hk); have hcz8_0 : w7.cell? ⟨gb192, 0, none⟩ = some (.int .u64 0) := bc BK192 0; have hcz8_1 : w7.cell? ⟨gb192, 1, none⟩ = some (.int .u64 0) := bc BK192 1; have hfz8_0 := bz BK192 0; have hfz8_1 := bz BK192 1))
  refine bodyPost_ret (results_cell_row rfl _ _ gb192 108 #[.int .u64 t193, .int .u64 t194] (0, 0) _ rfl (by (with_reducible repeat (first | refine blk_drewN ?_ _ | refine blk_drew ?_ | refine blk_alloc ?_ _)); refine blk_put (cs := #[.int .u64 t193, .int .u64 0]) ?_ 1 _ rfl; (with_reducible repeat (first | refine blk_drewN ?_ _ | refine blk_drew ?_ | refine blk_alloc ?_ _)); refine blk_put (cs := #[.int .u64 0, .int .u64 0]) ?_ 0 _ rfl; (with_reducible repeat (first | refine blk_drewN ?_ _ | refine blk_drew ?_ | refine blk_alloc ?_ _)); exact BK192.out) Tryd.underlying108 rfl (by kernel_rfl)) rfl ?_
  exact ⟨by first | rfl | (simp [errW_none, errW_some] <;> rfl) | (simp [*, errW_none, errW_some] <;> rfl), by repeat (first | (with_reducible first | exact HB.out | apply below_alloc | apply pw_below_drewN | apply below_drew1 | refine below_set ?_ GE191.out | refine below_set ?_ GE192.out) | exact HB.out)⟩
end Go.Proofs.YtfhcpniibiobgaaDoor.Qf
