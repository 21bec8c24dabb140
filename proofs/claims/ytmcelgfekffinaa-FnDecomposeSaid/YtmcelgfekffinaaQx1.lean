-- Written by wip/tools/myprint.py for this seat (the kit's print with changes); Lean checks it.
import Derived.Test.YtmcelgfekffinaaQx0
namespace Go.Proofs.Ytmcelgfekffinaa.Q
open Go.RowKit Go.Proofs.YtmcelgfekffinaaW.PrintWords Go.Proofs.YtmcelgfekffinaaW.PrintLast Go.Proofs.YtmcelgfekffinaaW.PrintMore
attribute [local go_sem] max2_int min2_int max_two min_two max_three min_three max_four min_four   -- for this text's walks alone
set_option linter.unusedVariables false
set_option linter.unusedSimpArgs false

/-! ### bits_Len64: function 9, by the shelf's contract -/
def bits_Len64.f (a0 : Int) : Option (Int) := if 0 ≤ a0 then (if a0 ≤ 18446744073709551615 then some ((Lib.bitLen a0.toNat : Nat) : Int) else none) else none
theorem bits_Len64.calls (a0 : Int) (r : Int) (w : World) (h : bits_Len64.f a0 = some r) :
    Calls Try.prog 9 #[.int .u64 a0] w fun e w' => e = .returned (.int .i64 r) ∧ Drawn0 w w' := by
  unfold bits_Len64.f at h
  by_cases c0 : 0 ≤ a0
  · rw [if_pos c0] at h
    by_cases c1 : a0 ≤ 18446744073709551615
    · rw [if_pos c1] at h
      obtain rfl := Option.some.inj h
      refine (Try.bits_Len64 a0 w c0 c1).mono ?_
      rintro e w' ⟨rfl, rfl⟩
      exact ⟨rfl, Drawn0.refl _⟩
    · rw [if_neg c1] at h; exact absurd h (by simp)
  · rw [if_neg c0] at h; exact absurd h (by simp)

/-! ### compact_Decompose: function 7 -/
def compact_Decompose.f (a0 : Int) (a1 : Int) : Option (Int × Int) := if a0 = 0 then (some (0, a1)) else ((bits_Len64.f (Go.bits .xor .u64 (IntKind.u64.wrap (a0 - 1)) a1)).bind fun t101 => (if 0 ≤ (IntKind.u64.wrap (wrap64 (t101 - 1))) then (some (Go.bits .and .u64 (Go.bits .xor .u64 18446744073709551615 (IntKind.u64.wrap (a0 - 1))) (IntKind.u64.wrap ((shl .u64 1 (IntKind.u64.wrap (wrap64 (t101 - 1)))) - 1)), Go.bits .and .u64 a1 (IntKind.u64.wrap ((shl .u64 1 (IntKind.u64.wrap (wrap64 (t101 - 1)))) - 1)))) else (none)))
set_option maxHeartbeats 8000000 in
set_option maxRecDepth 100000 in
theorem compact_Decompose.calls (a0 : Int) (a1 : Int) (r1 : Int) (r2 : Int) (w : World) (h : compact_Decompose.f a0 a1 = some (r1, r2)) :
    Calls Try.prog 7 #[.int .u64 a0, .int .u64 a1] w fun e w' => e = .returned (.tuple #[.int .u64 r1, .int .u64 r2]) ∧ Drawn0 w w' := by
  have H : (if a0 = 0 then (some (0, a1)) else ((bits_Len64.f (Go.bits .xor .u64 (IntKind.u64.wrap (a0 - 1)) a1)).bind fun t101 => (if 0 ≤ (IntKind.u64.wrap (wrap64 (t101 - 1))) then (some (Go.bits .and .u64 (Go.bits .xor .u64 18446744073709551615 (IntKind.u64.wrap (a0 - 1))) (IntKind.u64.wrap ((shl .u64 1 (IntKind.u64.wrap (wrap64 (t101 - 1)))) - 1)), Go.bits .and .u64 a1 (IntKind.u64.wrap ((shl .u64 1 (IntKind.u64.wrap (wrap64 (t101 - 1)))) - 1)))) else (none)))) = some (r1, r2) := h
  clear h
  by_cases c3 : a0 = 0
  · rw [if_pos c3] at H
    have c3b0 : (a0 == 0) = true := beq_iff_eq.mpr c3
    have c3b1 : (a0 != 0) = false := bne_eq_false_iff_eq.mpr c3
    clear c3
    simp only [Option.some.injEq, Prod.mk.injEq] at H
    obtain ⟨rfl, rfl⟩ := H
    go_enter Try.func7, Try.ntmps7
    go_wp2
    go_ret2
    exact ⟨by first | rfl | (simp; done) | (simp [*]; done), by repeat (first | exact Drawn0.refl _ | apply Drawn0.step)⟩
  · rw [if_neg c3] at H
    have c3b0 : (a0 == 0) = false := beq_eq_false_iff_ne.mpr c3
    have c3b1 : (a0 != 0) = true := bne_iff_ne.mpr c3
    replace H := Option.bind_eq_some_iff.mp H
    obtain ⟨t101, A40, H⟩ := H
    replace H : (if 0 ≤ (IntKind.u64.wrap (wrap64 (t101 - 1))) then (some (Go.bits .and .u64 (Go.bits .xor .u64 18446744073709551615 (IntKind.u64.wrap (a0 - 1))) (IntKind.u64.wrap ((shl .u64 1 (IntKind.u64.wrap (wrap64 (t101 - 1)))) - 1)), Go.bits .and .u64 a1 (IntKind.u64.wrap ((shl .u64 1 (IntKind.u64.wrap (wrap64 (t101 - 1)))) - 1)))) else (none)) = some (r1, r2) := H
    have A4 := Aside0.mk A40
    clear A40
    obtain ⟨ji5, hji5⟩ : ∃ j_ : Int, (IntKind.u64.wrap (wrap64 (t101 - 1))) = j_ := ⟨_, rfl⟩
    replace H : (if 0 ≤ (ji5) then (some (Go.bits .and .u64 (Go.bits .xor .u64 18446744073709551615 (IntKind.u64.wrap (a0 - 1))) (IntKind.u64.wrap ((shl .u64 1 (ji5)) - 1)), Go.bits .and .u64 a1 (IntKind.u64.wrap ((shl .u64 1 (ji5)) - 1)))) else (none)) = some (r1, r2) := by first | (rw [hji5] at H; exact H) | (simp only [hji5] at H ⊢; exact H)
    (try rw [hji5] at A4)
    by_cases c6 : 0 ≤ (ji5)
    · rw [if_pos c6] at H
      have c6b0 := eq_true c6
      have c6b1 : decide (0 ≤ (ji5)) = true := decide_eq_true c6
      clear c6
      obtain ⟨ji7, hji7⟩ : ∃ j_ : Int, (shl .u64 1 (ji5)) = j_ := ⟨_, rfl⟩
      replace H : (some (Go.bits .and .u64 (Go.bits .xor .u64 18446744073709551615 (IntKind.u64.wrap (a0 - 1))) (IntKind.u64.wrap ((ji7) - 1)), Go.bits .and .u64 a1 (IntKind.u64.wrap ((ji7) - 1)))) = some (r1, r2) := by first | (rw [hji7] at H; exact H) | (simp only [hji7] at H ⊢; exact H)
      (try rw [hji7] at A4)
      have hji7_ : (IntKind.u64.wrap (1 * 2 ^ min (ji5).toNat 64)) = ji7 := hji7
      have hji7z : (ji5) ≤ 64 → (IntKind.u64.wrap (1 * 2 ^ (ji5).toNat)) = ji7 := shl_small hji7
      have hji7u : (IntKind.u64.wrap (2 ^ min (ji5).toNat 64)) = ji7 := by have h_ := hji7_; rw [Int.one_mul] at h_; exact h_
      have hji7v : (ji5) ≤ 64 → (IntKind.u64.wrap (2 ^ (ji5).toNat)) = ji7 := fun hle_ => by have h_ := hji7z hle_; rw [Int.one_mul] at h_; exact h_
      simp only [Option.some.injEq, Prod.mk.injEq] at H
      obtain ⟨rfl, rfl⟩ := H
      go_enter Try.func7, Try.ntmps7
      go_wp2_with (first | ((with_reducible refine gate_callee (f := 9) rfl ?_); refine goesL_ (some 17) rfl rfl Try.func9 (by kernel_rfl) rfl #[.int .u64 (Go.bits .xor .u64 (IntKind.u64.wrap (a0 - 1)) a1)] rfl (by (try simp only [List.map_toArray, List.map_cons, List.map_nil]); first | done | rfl | (simp only [List.length_drop, List.length_take]; rfl)) ?_; (with_reducible refine (bits_Len64.calls (Go.bits .xor .u64 (IntKind.u64.wrap (a0 - 1)) a1) t101 _ A4.out).mono ?_); rintro e w' ⟨rfl, ⟨nd, rfl⟩⟩; refine ⟨_, rfl, ?_⟩))
      go_ret2
      exact ⟨by first | rfl | (simp; done) | (simp only [← hji5, ← hji7] <;> (first | rfl | simp)) | (simp [*]; done), by repeat (first | exact Drawn0.refl _ | apply Drawn0.step)⟩
    · rw [if_neg c6] at H
      exact absurd H (by simp)

/-! ### impl_Decompose: function 5 -/
def impl_Decompose.f (a0 : Int) (a1 : Int) : Option (Int × Int) := (compact_Decompose.f a0 a1).bind fun bt102 => (some (bt102.1, bt102.2))
set_option maxHeartbeats 8000000 in
set_option maxRecDepth 100000 in
theorem impl_Decompose.calls (a0 : Int) (a1 : Int) (r1 : Int) (r2 : Int) (w : World) (h : impl_Decompose.f a0 a1 = some (r1, r2)) :
    Calls Try.prog 5 #[.int .u64 a0, .int .u64 a1] w fun e w' => e = .returned (.tuple #[.int .u64 r1, .int .u64 r2]) ∧ Drawn0 w w' := by
  have H : ((compact_Decompose.f a0 a1).bind fun bt102 => (some (bt102.1, bt102.2))) = some (r1, r2) := h
  clear h
  replace H := Option.bind_eq_some_iff.mp H
  obtain ⟨⟨t102, t103⟩, A30, H⟩ := H
  replace H : (some (t102, t103)) = some (r1, r2) := H
  have A3 := Aside0.mk A30
  clear A30
  simp only [Option.some.injEq, Prod.mk.injEq] at H
  obtain ⟨rfl, rfl⟩ := H
  go_enter Try.func5, Try.ntmps5
  go_wp2_with (first | ((with_reducible refine gate_callee (f := 7) rfl ?_); refine goesL_ (some 8) rfl rfl Try.func7 (by kernel_rfl) rfl #[.int .u64 a0, .int .u64 a1] rfl (by (try simp only [List.map_toArray, List.map_cons, List.map_nil]); first | done | rfl | (simp only [List.length_drop, List.length_take]; rfl)) ?_; (with_reducible refine (compact_Decompose.calls a0 a1 t102 t103 _ A3.out).mono ?_); rintro e w' ⟨rfl, ⟨nd, rfl⟩⟩; refine ⟨_, rfl, ?_⟩))
  go_ret2
  exact ⟨by first | rfl | (simp; done) | (simp [*]; done), by repeat (first | exact Drawn0.refl _ | apply Drawn0.step)⟩

/-! ### spec_Nodes: function 8 -/
mutual
def spec_Nodes.l0 : Nat → List (S33) → Int → Int → Option ((List (S33)))
  | 0, _, _, _ => none
  | k + 1, x3, x105000, x105001 => if x105000 < x105001 then (spec_Nodes.l1 k x3 0 x105000 x105001) else (some x3)
def spec_Nodes.l1 : Nat → List (S33) → Int → Int → Int → Option ((List (S33)))
  | 0, _, _, _, _ => none
  | k + 1, x3, x4, x105000, x105001 => if x4 < 63 then (if 0 ≤ x4 then (if (Go.bits .and .u64 (shr .u64 x105000 x4) 1) = 0 then (if 0 ≤ (IntKind.u64.wrap (x4 + 1)) then (if (shl .u64 1 (IntKind.u64.wrap (x4 + 1))) ≤ (IntKind.u64.wrap (x105001 - x105000)) then (spec_Nodes.l1 k x3 (IntKind.u64.wrap (x4 + 1)) x105000 x105001) else (if x3.length < 8796093022208 then (spec_Nodes.l0 k (x3 ++ [(⟨x4, shr .u64 x105000 x4⟩ : S33)]) (IntKind.u64.wrap (x105000 + (shl .u64 1 x4))) x105001) else (none))) else (none)) else (if x3.length < 8796093022208 then (spec_Nodes.l0 k (x3 ++ [(⟨x4, shr .u64 x105000 x4⟩ : S33)]) (IntKind.u64.wrap (x105000 + (shl .u64 1 x4))) x105001) else (none))) else (none)) else (if 0 ≤ x4 then (if x3.length < 8796093022208 then (spec_Nodes.l0 k (x3 ++ [(⟨x4, shr .u64 x105000 x4⟩ : S33)]) (IntKind.u64.wrap (x105000 + (shl .u64 1 x4))) x105001) else (none)) else (none))
end
def spec_Nodes.f (k : Nat) (a0_0 : Int) (a0_1 : Int) : Option ((List (S33))) := spec_Nodes.l0 k ([] : List (S33)) a0_0 a0_1
theorem spec_Nodes.mono_l : ∀ k, (∀ y0 y1 y2, LeO (spec_Nodes.l0 k y0 y1 y2) (spec_Nodes.l0 (k + 1) y0 y1 y2)) ∧ (∀ y0 y1 y2 y3, LeO (spec_Nodes.l1 k y0 y1 y2 y3) (spec_Nodes.l1 (k + 1) y0 y1 y2 y3))
  | 0 => ⟨fun _ _ _ r h => by simp [spec_Nodes.l0] at h, fun _ _ _ _ r h => by simp [spec_Nodes.l1] at h⟩
  | k + 1 => by
    obtain ⟨ih0, ih1⟩ := spec_Nodes.mono_l k
    refine ⟨?_, ?_⟩
    · intro y0 y1 y2
      unfold spec_Nodes.l0
      repeat' first
      | (with_reducible exact ih0 _ _ _)
      | (with_reducible exact ih1 _ _ _ _)
      | (with_reducible exact LeO.refl _)
      | (with_reducible exact LeO.none _)
      | (with_reducible refine LeO.ite ?_ ?_)
      | (with_reducible refine LeO.bind ?_ (fun _ => ?_))
      | exact ih0 _ _ _
      | exact ih1 _ _ _ _
      | exact LeO.none _
      | refine LeO.ite ?_ ?_
      | refine LeO.bind ?_ (fun _ => ?_)
    · intro y0 y1 y2 y3
      unfold spec_Nodes.l1
      repeat' first
      | (with_reducible exact ih0 _ _ _)
      | (with_reducible exact ih1 _ _ _ _)
      | (with_reducible exact LeO.refl _)
      | (with_reducible exact LeO.none _)
      | (with_reducible refine LeO.ite ?_ ?_)
      | (with_reducible refine LeO.bind ?_ (fun _ => ?_))
      | exact ih0 _ _ _
      | exact ih1 _ _ _ _
      | exact LeO.none _
      | refine LeO.ite ?_ ?_
      | refine LeO.bind ?_ (fun _ => ?_)
theorem spec_Nodes.mono : ∀ a0 a1 k, LeO (spec_Nodes.f k a0 a1) (spec_Nodes.f (k + 1) a0 a1) := by
  intro a0 a1 k
  obtain ⟨ih0, ih1⟩ := spec_Nodes.mono_l k
  unfold spec_Nodes.f
  repeat' first
      | (with_reducible exact ih0 _ _ _)
      | (with_reducible exact ih1 _ _ _ _)
      | (with_reducible exact LeO.refl _)
      | (with_reducible exact LeO.none _)
      | (with_reducible refine LeO.ite ?_ ?_)
      | (with_reducible refine LeO.bind ?_ (fun _ => ?_))
      | exact ih0 _ _ _
      | exact ih1 _ _ _ _
      | exact LeO.none _
      | refine LeO.ite ?_ ?_
      | refine LeO.bind ?_ (fun _ => ?_)
set_option maxHeartbeats 8000000 in
set_option maxRecDepth 100000 in
theorem spec_Nodes.calls (k : Nat) (a0_0 : Int) (a0_1 : Int) (r : List (S33)) (w : World) (h : spec_Nodes.f k a0_0 a0_1 = some r) :
    Calls Try.prog 8 #[.agg #[.int .u64 a0_0, .int .u64 a0_1]] w fun e w' => ∃ v0_ : Value, e = .returned (v0_) ∧ Kd.R k33 33 w' w.heap.size (fun _ => True) v0_ r ∧ Below w.heap.size w w' := by
  have hu27 := Try.underlying27
  have hu33 := Try.underlying33
  have HB := Aside0.mk (Below.refl w.heap.size w)
  have H : (spec_Nodes.l0 k ([] : List (S33)) a0_0 a0_1) = some r := h
  clear h
  have H' := Aside0.mk H
  clear H
  go_enter Try.func8, Try.ntmps8
  go_wp2_with (first | ((with_reducible refine gate_dst (N := 1) rfl ?_); refine box_event ?hg (N := 1) ?hd (cs := #[.int .u64 a0_0, .int .u64 a0_1]) (t := 27) ?hr ?_; (case hd => rfl); (case hg => rfl); (case hr => first | (go_simp; done) | (go_simp; rfl)); intro gb104 hg w2 hbox hb; have n0_ := Aside0.mk (below_step (by repeat (first | (with_reducible first | exact HB.out | apply below_alloc | apply pw_below_drewN | apply below_drew1) | exact HB.out)) hb); have n1_ := Aside0.mk (hbox); have n2_ := Aside0.mk ((by rw [hg]; exact (below_size (by repeat (first | (with_reducible first | exact HB.out | apply below_alloc | apply pw_below_drewN | apply below_drew1) | exact HB.out))) : w.heap.size ≤ gb104)); have n3_ := Aside0.mk ((by rw [hg]; exact (below_size (by repeat (first | (with_reducible first | exact HB.out | apply below_alloc | apply pw_below_drewN | apply below_drew1) | exact HB.out))) : w.heap.size ≤ gb104)); clear HB; have HB := n0_; have BK104 := n1_; have GW104 := n2_; have GE104 := n3_; clear n0_ n1_ n2_ n3_; clear hb hbox hg))
  go_loopg [3] k (fun kq v3 w' => ∃ (x3_1 : List (S33)) (x105000_1 : Int), Aside0 (spec_Nodes.l0 kq x3_1 x105000_1 a0_1 = some r) ∧ Aside0 (kq ≤ k) ∧ Aside0 (Kd.R k33 33 w' w.heap.size (fun _ => True) v3 x3_1) ∧ Aside0 (w'.heap[gb104]? = some (.cells #[.int .u64 x105000_1, .int .u64 a0_1] 27 (0, 0))) ∧ Aside0 (Below w.heap.size w w'))
  case atStart => exact ⟨(([] : List (S33))), (a0_0), H', ⟨Nat.le_refl _⟩, ⟨by first | exact Kd.R_nil _ _ _ _ _ | exact Kd.N_nil _ _ _ _ _ | exact Kd.V_nil _ _ _ _ _ | exact Kd.Q_nil _ _ _ _ _ | exact Kd.S_nil _ _ _ _ _⟩, ⟨by (with_reducible repeat (first | refine blk_drewN ?_ _ | refine blk_drew ?_ | refine blk_alloc ?_ _)); exact BK104.out⟩, ⟨by repeat (first | (with_reducible first | exact HB.out | apply below_alloc | apply pw_below_drewN | apply below_drew1 | refine below_set ?_ GE104.out) | exact HB.out)⟩⟩
  case round =>
    clear H'
    try clear p2
    obtain ⟨x3_1, x105000_1, HA, HK1, HO_3, BK104, HB⟩ := hrel
    cases gk with
    | zero => exact absurd HA.out (by simp [spec_Nodes.l0])
    | succ k1 =>
      have H := HA.out
      clear HA
      simp only [spec_Nodes.l0] at H
      by_cases c3 : x105000_1 < a0_1
      · rw [if_pos c3] at H
        have c3b0 : decide (x105000_1 < a0_1) = true := decide_eq_true c3
        clear c3
        have H' := Aside0.mk H
        clear H
        have hcz4_0 : wr.cell? ⟨gb104, 0, none⟩ = some (.int .u64 x105000_1) := (blk_cell BK104.out 0).trans rfl
        have hcz4_1 : wr.cell? ⟨gb104, 1, none⟩ = some (.int .u64 a0_1) := (blk_cell BK104.out 1).trans rfl
        have hfz4_0 := blk_frozen BK104.out 0
        have hfz4_1 := blk_frozen BK104.out 1
        go_wp2
        go_loopg [4] k1 (fun kq v4 w' => ∃ (x4_2 : Int), v4 = .int .u64 x4_2 ∧ Aside0 (spec_Nodes.l1 kq x3_1 x4_2 x105000_1 a0_1 = some r) ∧ Aside0 (kq ≤ k1) ∧ Aside0 (Kd.R k33 33 w' w.heap.size (fun _ => True) u3 x3_1) ∧ Aside0 (w'.heap[gb104]? = some (.cells #[.int .u64 x105000_1, .int .u64 a0_1] 27 (0, 0))) ∧ Aside0 (Below w.heap.size w w'))
        case atStart => exact ⟨(0), (by first | rfl | (simp; done) | (simp [*]; done)), H', ⟨Nat.le_refl _⟩, ⟨by (with_reducible repeat (first | apply Kd.R_alloc | apply Kd.R_drewN | apply Kd.R_drew)); exact HO_3.out⟩, ⟨by (with_reducible repeat (first | refine blk_drewN ?_ _ | refine blk_drew ?_ | refine blk_alloc ?_ _)); exact BK104.out⟩, ⟨by repeat (first | (with_reducible first | exact HB.out | apply below_alloc | apply pw_below_drewN | apply below_drew1 | refine below_set ?_ GE104.out) | exact HB.out)⟩⟩
        case round =>
          clear H'
          try clear p2
          try clear c3
          try clear c3b0
          try clear hcz4_0
          try clear hcz4_1
          try clear hfz4_0
          try clear hfz4_1
          try clear p2
          obtain ⟨x4_2, rfl, HA, HK2, HO_3, BK104, HB⟩ := hrel
          cases gk with
          | zero => exact absurd HA.out (by simp [spec_Nodes.l1])
          | succ k2 =>
            have H := HA.out
            clear HA
            simp only [spec_Nodes.l1] at H
            by_cases c5 : x4_2 < 63
            · rw [if_pos c5] at H
              have c5b0 : decide (x4_2 < 63) = true := decide_eq_true c5
              clear c5
              by_cases c6 : 0 ≤ x4_2
              · rw [if_pos c6] at H
                have c6b0 := eq_true c6
                have c6b1 : decide (0 ≤ x4_2) = true := decide_eq_true c6
                clear c6
                obtain ⟨ji7, hji7⟩ : ∃ j_ : Int, (shr .u64 x105000_1 x4_2) = j_ := ⟨_, rfl⟩
                replace H : (if (Go.bits .and .u64 (ji7) 1) = 0 then (if 0 ≤ (IntKind.u64.wrap (x4_2 + 1)) then (if (shl .u64 1 (IntKind.u64.wrap (x4_2 + 1))) ≤ (IntKind.u64.wrap (a0_1 - x105000_1)) then (spec_Nodes.l1 k2 x3_1 (IntKind.u64.wrap (x4_2 + 1)) x105000_1 a0_1) else (if x3_1.length < 8796093022208 then (spec_Nodes.l0 k2 (x3_1 ++ [(⟨x4_2, ji7⟩ : S33)]) (IntKind.u64.wrap (x105000_1 + (shl .u64 1 x4_2))) a0_1) else (none))) else (none)) else (if x3_1.length < 8796093022208 then (spec_Nodes.l0 k2 (x3_1 ++ [(⟨x4_2, ji7⟩ : S33)]) (IntKind.u64.wrap (x105000_1 + (shl .u64 1 x4_2))) a0_1) else (none))) = some r := by first | (rw [hji7] at H; exact H) | (simp only [hji7] at H ⊢; exact H)
                have hji7_ : (x105000_1 / 2 ^ min x4_2.toNat 64) = ji7 := hji7
                have hji7z : x4_2 ≤ 64 → (x105000_1 / 2 ^ x4_2.toNat) = ji7 := shr_small hji7
                by_cases c8 : (Go.bits .and .u64 (ji7) 1) = 0
                · rw [if_pos c8] at H
                  have c8b0 : ((Go.bits .and .u64 (ji7) 1) == 0) = true := beq_iff_eq.mpr c8
                  have c8b1 : ((Go.bits .and .u64 (ji7) 1) != 0) = false := bne_eq_false_iff_eq.mpr c8
                  clear c8
                  obtain ⟨ji9, hji9⟩ : ∃ j_ : Int, (IntKind.u64.wrap (x4_2 + 1)) = j_ := ⟨_, rfl⟩
                  replace H : (if 0 ≤ (ji9) then (if (shl .u64 1 (ji9)) ≤ (IntKind.u64.wrap (a0_1 - x105000_1)) then (spec_Nodes.l1 k2 x3_1 ji9 x105000_1 a0_1) else (if x3_1.length < 8796093022208 then (spec_Nodes.l0 k2 (x3_1 ++ [(⟨x4_2, ji7⟩ : S33)]) (IntKind.u64.wrap (x105000_1 + (shl .u64 1 x4_2))) a0_1) else (none))) else (none)) = some r := by first | (rw [hji9] at H; exact H) | (simp only [hji9] at H ⊢; exact H)
                  by_cases c10 : 0 ≤ (ji9)
                  · rw [if_pos c10] at H
                    have c10b0 := eq_true c10
                    have c10b1 : decide (0 ≤ (ji9)) = true := decide_eq_true c10
                    clear c10
                    obtain ⟨ji11, hji11⟩ : ∃ j_ : Int, (shl .u64 1 (ji9)) = j_ := ⟨_, rfl⟩
                    replace H : (if (ji11) ≤ (IntKind.u64.wrap (a0_1 - x105000_1)) then (spec_Nodes.l1 k2 x3_1 ji9 x105000_1 a0_1) else (if x3_1.length < 8796093022208 then (spec_Nodes.l0 k2 (x3_1 ++ [(⟨x4_2, ji7⟩ : S33)]) (IntKind.u64.wrap (x105000_1 + (shl .u64 1 x4_2))) a0_1) else (none))) = some r := by first | (rw [hji11] at H; exact H) | (simp only [hji11] at H ⊢; exact H)
                    have hji11_ : (IntKind.u64.wrap (1 * 2 ^ min (ji9).toNat 64)) = ji11 := hji11
                    have hji11z : (ji9) ≤ 64 → (IntKind.u64.wrap (1 * 2 ^ (ji9).toNat)) = ji11 := shl_small hji11
                    have hji11u : (IntKind.u64.wrap (2 ^ min (ji9).toNat 64)) = ji11 := by have h_ := hji11_; rw [Int.one_mul] at h_; exact h_
                    have hji11v : (ji9) ≤ 64 → (IntKind.u64.wrap (2 ^ (ji9).toNat)) = ji11 := fun hle_ => by have h_ := hji11z hle_; rw [Int.one_mul] at h_; exact h_
                    by_cases c12 : (ji11) ≤ (IntKind.u64.wrap (a0_1 - x105000_1))
                    · rw [if_pos c12] at H
                      have c12b0 : decide ((ji11) ≤ (IntKind.u64.wrap (a0_1 - x105000_1))) = true := decide_eq_true c12
                      clear c12
                      have H' := Aside0.mk H
                      clear H
                      have hcz13_0 : wr.cell? ⟨gb104, 0, none⟩ = some (.int .u64 x105000_1) := (blk_cell BK104.out 0).trans rfl
                      have hcz13_1 : wr.cell? ⟨gb104, 1, none⟩ = some (.int .u64 a0_1) := (blk_cell BK104.out 1).trans rfl
                      have hfz13_0 := blk_frozen BK104.out 0
                      have hfz13_1 := blk_frozen BK104.out 1
                      go_wp2
                      go_roundg k2
                      case measure => have := HK1.out; have := HK2.out; omega
                      case rel => exact ⟨(ji9), (by first | rfl | (simp; done) | (simp only [← hji9] <;> (first | rfl | simp)) | (simp [*]; done)), H', ⟨by have := HK1.out; have := HK2.out; omega⟩, ⟨by (with_reducible repeat (first | apply Kd.R_alloc | apply Kd.R_drewN | apply Kd.R_drew)); exact HO_3.out⟩, ⟨by (with_reducible repeat (first | refine blk_drewN ?_ _ | refine blk_drew ?_ | refine blk_alloc ?_ _)); exact BK104.out⟩, ⟨by repeat (first | (with_reducible first | exact HB.out | apply below_alloc | apply pw_below_drewN | apply below_drew1 | refine below_set ?_ GE104.out) | exact HB.out)⟩⟩
                    · rw [if_neg c12] at H
                      have c12b0 : decide ((ji11) ≤ (IntKind.u64.wrap (a0_1 - x105000_1))) = false := decide_eq_false c12
                      clear c12
                      have c14b0 := eq_true (of_decide_eq_true (by first | (with_reducible assumption) | assumption) : 0 ≤ x4_2)
                      by_cases c15 : x3_1.length < 8796093022208
                      · rw [if_pos c15] at H
                        have LMc15 := Aside0.mk c15
                        clear c15
                        obtain ⟨y105, hy105⟩ : ∃ y_ : List (S33), y_ = (x3_1 ++ [(⟨x4_2, ji7⟩ : S33)]) := ⟨_, rfl⟩
                        replace H : (spec_Nodes.l0 k2 y105 (IntKind.u64.wrap (x105000_1 + (shl .u64 1 x4_2))) a0_1) = some r := by first | (rw [hy105]; with_reducible exact H) | (have H2_ := (Option.bind_some _ _).symm.trans H; rw [hy105]; with_reducible exact H2_) | (have H2_ := (Option.bind_some _ _).symm.trans H; with_reducible exact H2_) | with_reducible exact H | (rw [hy105]; exact H) | exact H
                        have Ny105 := Aside0.mk hy105
                        clear hy105
                        have c16b0 := eq_true (of_decide_eq_true (by first | (with_reducible assumption) | assumption) : 0 ≤ x4_2)
                        obtain ⟨ji17, hji17⟩ : ∃ j_ : Int, (shl .u64 1 x4_2) = j_ := ⟨_, rfl⟩
                        replace H : (spec_Nodes.l0 k2 y105 (IntKind.u64.wrap (x105000_1 + (ji17))) a0_1) = some r := by first | (rw [hji17] at H; exact H) | (simp only [hji17] at H ⊢; exact H)
                        have hji17_ : (IntKind.u64.wrap (1 * 2 ^ min x4_2.toNat 64)) = ji17 := hji17
                        have hji17z : x4_2 ≤ 64 → (IntKind.u64.wrap (1 * 2 ^ x4_2.toNat)) = ji17 := shl_small hji17
                        have hji17u : (IntKind.u64.wrap (2 ^ min x4_2.toNat 64)) = ji17 := by have h_ := hji17_; rw [Int.one_mul] at h_; exact h_
                        have hji17v : x4_2 ≤ 64 → (IntKind.u64.wrap (2 ^ x4_2.toNat)) = ji17 := fun hle_ => by have h_ := hji17z hle_; rw [Int.one_mul] at h_; exact h_
                        have H' := Aside0.mk H
                        clear H
                        have hcz18_0 : wr.cell? ⟨gb104, 0, none⟩ = some (.int .u64 x105000_1) := (blk_cell BK104.out 0).trans rfl
                        have hcz18_1 : wr.cell? ⟨gb104, 1, none⟩ = some (.int .u64 a0_1) := (blk_cell BK104.out 1).trans rfl
                        have hfz18_0 := blk_frozen BK104.out 0
                        have hfz18_1 := blk_frozen BK104.out 1
                        go_wp2_with (first | ((with_reducible refine gate_builtin (b := .append) (xs := #[.tmp 33, .tmp 40]) rfl ?_); at_builtin; refine Kd.R_append k33 (w0 := w) w.heap.size rfl (.tmp 33) (.tmp 40) 29 33 (.agg #[(.int .u64 0), (.int .u64 0)]) 16 rfl Try.underlying29 info33 rfl (by decide) (by omega) u3 x3_1 (⟨x4_2, ji7⟩ : S33) [.int .u64 x4_2, .int .u64 ji7] (fun _ => True) (fun _ => False) rfl rfl ?aP (fun _ hk => hk.elim) ?aF ?aO ?aB ?aS ?aL ?_; (case aP => exact k33_mkM _ _ _ (⟨x4_2, ji7⟩ : S33)); (case aB => exact (by repeat (first | (with_reducible first | exact HB.out | apply below_alloc | apply pw_below_drewN | apply below_drew1 | refine below_set ?_ GE104.out) | exact HB.out))); (case aF => exact (fun _ _ => trivial)); (case aO => exact (by (with_reducible repeat (first | apply Kd.R_alloc | apply Kd.R_drewN | apply Kd.R_drew)); exact HO_3.out)); (case aS => exact (below_size (by repeat (first | (with_reducible first | exact HB.out | apply below_alloc | apply pw_below_drewN | apply below_drew1 | refine below_set ?_ GE104.out) | exact HB.out)))); (case aL => have := LMc15.out; omega); intro v106 w19 ho hb hg hat; rw [← Ny105.out] at ho; have n0_ := Aside0.mk (blk_grown (g := gb104) (o := .cells #[.int .u64 x105000_1, .int .u64 a0_1] 27 (0, 0)) (by (with_reducible repeat (first | refine blk_drewN ?_ _ | refine blk_drew ?_ | refine blk_alloc ?_ _)); exact BK104.out) hg (Kd.R_ne HO_3.out BK104.out (by decide))); have n1_ := Aside0.mk (hb); have n2_ := Aside0.mk (ho); clear BK104; clear HB; clear HO_3; have BK104 := n0_; have HB := n1_; have HO107 := n2_; clear n0_ n1_ n2_; clear ho hb hg hat; have hcz20_0 : w19.cell? ⟨gb104, 0, none⟩ = some (.int .u64 x105000_1) := (blk_cell BK104.out 0).trans rfl; have hcz20_1 : w19.cell? ⟨gb104, 1, none⟩ = some (.int .u64 a0_1) := (blk_cell BK104.out 1).trans rfl; have hfz20_0 := blk_frozen BK104.out 0; have hfz20_1 := blk_frozen BK104.out 1))
                        go_roundg k2
                        case measure => have := HK1.out; have := HK2.out; omega
                        case rel => exact ⟨(y105), (IntKind.u64.wrap (x105000_1 + (ji17))), H', ⟨by have := HK1.out; have := HK2.out; omega⟩, ⟨by (with_reducible repeat (first | apply Kd.R_alloc | apply Kd.R_drewN | apply Kd.R_drew)); exact Kd.R_mono (Kd.R_far (p := ⟨gb104, 0, none⟩) (Kd.R_types HO107.out BK104.out (by decide)) (fun _ hk => hk.2) (.int .u64 (IntKind.u64.wrap (x105000_1 + (ji17))))) (fun _ hk => trivial)⟩, ⟨by (with_reducible repeat (first | refine blk_drewN ?_ _ | refine blk_drew ?_ | refine blk_alloc ?_ _)); refine blk_put (cs := #[.int .u64 x105000_1, .int .u64 a0_1]) ?_ 0 _ rfl; (with_reducible repeat (first | refine blk_drewN ?_ _ | refine blk_drew ?_ | refine blk_alloc ?_ _)); exact BK104.out⟩, ⟨by repeat (first | (with_reducible first | exact HB.out | apply below_alloc | apply pw_below_drewN | apply below_drew1 | refine below_set ?_ GE104.out) | exact HB.out)⟩⟩
                      · rw [if_neg c15] at H
                        exact absurd H (by simp)
                  · rw [if_neg c10] at H
                    exact absurd H (by simp)
                · rw [if_neg c8] at H
                  have c8b0 : ((Go.bits .and .u64 (ji7) 1) == 0) = false := beq_eq_false_iff_ne.mpr c8
                  have c8b1 : ((Go.bits .and .u64 (ji7) 1) != 0) = true := bne_iff_ne.mpr c8
                  have c21b0 := eq_true (of_decide_eq_true (by first | (with_reducible assumption) | assumption) : 0 ≤ x4_2)
                  by_cases c22 : x3_1.length < 8796093022208
                  · rw [if_pos c22] at H
                    have LMc22 := Aside0.mk c22
                    clear c22
                    obtain ⟨y108, hy108⟩ : ∃ y_ : List (S33), y_ = (x3_1 ++ [(⟨x4_2, ji7⟩ : S33)]) := ⟨_, rfl⟩
                    replace H : (spec_Nodes.l0 k2 y108 (IntKind.u64.wrap (x105000_1 + (shl .u64 1 x4_2))) a0_1) = some r := by first | (rw [hy108]; with_reducible exact H) | (have H2_ := (Option.bind_some _ _).symm.trans H; rw [hy108]; with_reducible exact H2_) | (have H2_ := (Option.bind_some _ _).symm.trans H; with_reducible exact H2_) | with_reducible exact H | (rw [hy108]; exact H) | exact H
                    have Ny108 := Aside0.mk hy108
                    clear hy108
                    have c23b0 := eq_true (of_decide_eq_true (by first | (with_reducible assumption) | assumption) : 0 ≤ x4_2)
                    obtain ⟨ji24, hji24⟩ : ∃ j_ : Int, (shl .u64 1 x4_2) = j_ := ⟨_, rfl⟩
                    replace H : (spec_Nodes.l0 k2 y108 (IntKind.u64.wrap (x105000_1 + (ji24))) a0_1) = some r := by first | (rw [hji24] at H; exact H) | (simp only [hji24] at H ⊢; exact H)
                    have hji24_ : (IntKind.u64.wrap (1 * 2 ^ min x4_2.toNat 64)) = ji24 := hji24
                    have hji24z : x4_2 ≤ 64 → (IntKind.u64.wrap (1 * 2 ^ x4_2.toNat)) = ji24 := shl_small hji24
                    have hji24u : (IntKind.u64.wrap (2 ^ min x4_2.toNat 64)) = ji24 := by have h_ := hji24_; rw [Int.one_mul] at h_; exact h_
                    have hji24v : x4_2 ≤ 64 → (IntKind.u64.wrap (2 ^ x4_2.toNat)) = ji24 := fun hle_ => by have h_ := hji24z hle_; rw [Int.one_mul] at h_; exact h_
                    have H' := Aside0.mk H
                    clear H
                    have hcz25_0 : wr.cell? ⟨gb104, 0, none⟩ = some (.int .u64 x105000_1) := (blk_cell BK104.out 0).trans rfl
                    have hcz25_1 : wr.cell? ⟨gb104, 1, none⟩ = some (.int .u64 a0_1) := (blk_cell BK104.out 1).trans rfl
                    have hfz25_0 := blk_frozen BK104.out 0
                    have hfz25_1 := blk_frozen BK104.out 1
                    go_wp2_with (first | ((with_reducible refine gate_builtin (b := .append) (xs := #[.tmp 33, .tmp 40]) rfl ?_); at_builtin; refine Kd.R_append k33 (w0 := w) w.heap.size rfl (.tmp 33) (.tmp 40) 29 33 (.agg #[(.int .u64 0), (.int .u64 0)]) 16 rfl Try.underlying29 info33 rfl (by decide) (by omega) u3 x3_1 (⟨x4_2, ji7⟩ : S33) [.int .u64 x4_2, .int .u64 ji7] (fun _ => True) (fun _ => False) rfl rfl ?aP (fun _ hk => hk.elim) ?aF ?aO ?aB ?aS ?aL ?_; (case aP => exact k33_mkM _ _ _ (⟨x4_2, ji7⟩ : S33)); (case aB => exact (by repeat (first | (with_reducible first | exact HB.out | apply below_alloc | apply pw_below_drewN | apply below_drew1 | refine below_set ?_ GE104.out) | exact HB.out))); (case aF => exact (fun _ _ => trivial)); (case aO => exact (by (with_reducible repeat (first | apply Kd.R_alloc | apply Kd.R_drewN | apply Kd.R_drew)); exact HO_3.out)); (case aS => exact (below_size (by repeat (first | (with_reducible first | exact HB.out | apply below_alloc | apply pw_below_drewN | apply below_drew1 | refine below_set ?_ GE104.out) | exact HB.out)))); (case aL => have := LMc22.out; omega); intro v109 w26 ho hb hg hat; rw [← Ny108.out] at ho; have n0_ := Aside0.mk (blk_grown (g := gb104) (o := .cells #[.int .u64 x105000_1, .int .u64 a0_1] 27 (0, 0)) (by (with_reducible repeat (first | refine blk_drewN ?_ _ | refine blk_drew ?_ | refine blk_alloc ?_ _)); exact BK104.out) hg (Kd.R_ne HO_3.out BK104.out (by decide))); have n1_ := Aside0.mk (hb); have n2_ := Aside0.mk (ho); clear BK104; clear HB; clear HO_3; have BK104 := n0_; have HB := n1_; have HO110 := n2_; clear n0_ n1_ n2_; clear ho hb hg hat; have hcz27_0 : w26.cell? ⟨gb104, 0, none⟩ = some (.int .u64 x105000_1) := (blk_cell BK104.out 0).trans rfl; have hcz27_1 : w26.cell? ⟨gb104, 1, none⟩ = some (.int .u64 a0_1) := (blk_cell BK104.out 1).trans rfl; have hfz27_0 := blk_frozen BK104.out 0; have hfz27_1 := blk_frozen BK104.out 1))
                    go_roundg k2
                    case measure => have := HK1.out; have := HK2.out; omega
                    case rel => exact ⟨(y108), (IntKind.u64.wrap (x105000_1 + (ji24))), H', ⟨by have := HK1.out; have := HK2.out; omega⟩, ⟨by (with_reducible repeat (first | apply Kd.R_alloc | apply Kd.R_drewN | apply Kd.R_drew)); exact Kd.R_mono (Kd.R_far (p := ⟨gb104, 0, none⟩) (Kd.R_types HO110.out BK104.out (by decide)) (fun _ hk => hk.2) (.int .u64 (IntKind.u64.wrap (x105000_1 + (ji24))))) (fun _ hk => trivial)⟩, ⟨by (with_reducible repeat (first | refine blk_drewN ?_ _ | refine blk_drew ?_ | refine blk_alloc ?_ _)); refine blk_put (cs := #[.int .u64 x105000_1, .int .u64 a0_1]) ?_ 0 _ rfl; (with_reducible repeat (first | refine blk_drewN ?_ _ | refine blk_drew ?_ | refine blk_alloc ?_ _)); exact BK104.out⟩, ⟨by repeat (first | (with_reducible first | exact HB.out | apply below_alloc | apply pw_below_drewN | apply below_drew1 | refine below_set ?_ GE104.out) | exact HB.out)⟩⟩
                  · rw [if_neg c22] at H
                    exact absurd H (by simp)
              · rw [if_neg c6] at H
                exact absurd H (by simp)
            · rw [if_neg c5] at H
              have c5b0 : decide (x4_2 < 63) = false := decide_eq_false c5
              clear c5
              by_cases c28 : 0 ≤ x4_2
              · rw [if_pos c28] at H
                have c28b0 := eq_true c28
                have c28b1 : decide (0 ≤ x4_2) = true := decide_eq_true c28
                clear c28
                obtain ⟨ji29, hji29⟩ : ∃ j_ : Int, (shr .u64 x105000_1 x4_2) = j_ := ⟨_, rfl⟩
                replace H : (if x3_1.length < 8796093022208 then (spec_Nodes.l0 k2 (x3_1 ++ [(⟨x4_2, ji29⟩ : S33)]) (IntKind.u64.wrap (x105000_1 + (shl .u64 1 x4_2))) a0_1) else (none)) = some r := by first | (rw [hji29] at H; exact H) | (simp only [hji29] at H ⊢; exact H)
                have hji29_ : (x105000_1 / 2 ^ min x4_2.toNat 64) = ji29 := hji29
                have hji29z : x4_2 ≤ 64 → (x105000_1 / 2 ^ x4_2.toNat) = ji29 := shr_small hji29
                by_cases c30 : x3_1.length < 8796093022208
                · rw [if_pos c30] at H
                  have LMc30 := Aside0.mk c30
                  clear c30
                  obtain ⟨y111, hy111⟩ : ∃ y_ : List (S33), y_ = (x3_1 ++ [(⟨x4_2, ji29⟩ : S33)]) := ⟨_, rfl⟩
                  replace H : (spec_Nodes.l0 k2 y111 (IntKind.u64.wrap (x105000_1 + (shl .u64 1 x4_2))) a0_1) = some r := by first | (rw [hy111]; with_reducible exact H) | (have H2_ := (Option.bind_some _ _).symm.trans H; rw [hy111]; with_reducible exact H2_) | (have H2_ := (Option.bind_some _ _).symm.trans H; with_reducible exact H2_) | with_reducible exact H | (rw [hy111]; exact H) | exact H
                  have Ny111 := Aside0.mk hy111
                  clear hy111
                  have c31b0 := eq_true (of_decide_eq_true (by first | (with_reducible assumption) | assumption) : 0 ≤ x4_2)
                  obtain ⟨ji32, hji32⟩ : ∃ j_ : Int, (shl .u64 1 x4_2) = j_ := ⟨_, rfl⟩
                  replace H : (spec_Nodes.l0 k2 y111 (IntKind.u64.wrap (x105000_1 + (ji32))) a0_1) = some r := by first | (rw [hji32] at H; exact H) | (simp only [hji32] at H ⊢; exact H)
                  have hji32_ : (IntKind.u64.wrap (1 * 2 ^ min x4_2.toNat 64)) = ji32 := hji32
                  have hji32z : x4_2 ≤ 64 → (IntKind.u64.wrap (1 * 2 ^ x4_2.toNat)) = ji32 := shl_small hji32
                  have hji32u : (IntKind.u64.wrap (2 ^ min x4_2.toNat 64)) = ji32 := by have h_ := hji32_; rw [Int.one_mul] at h_; exact h_
                  have hji32v : x4_2 ≤ 64 → (IntKind.u64.wrap (2 ^ x4_2.toNat)) = ji32 := fun hle_ => by have h_ := hji32z hle_; rw [Int.one_mul] at h_; exact h_
                  have H' := Aside0.mk H
                  clear H
                  have hcz33_0 : wr.cell? ⟨gb104, 0, none⟩ = some (.int .u64 x105000_1) := (blk_cell BK104.out 0).trans rfl
                  have hcz33_1 : wr.cell? ⟨gb104, 1, none⟩ = some (.int .u64 a0_1) := (blk_cell BK104.out 1).trans rfl
                  have hfz33_0 := blk_frozen BK104.out 0
                  have hfz33_1 := blk_frozen BK104.out 1
                  go_wp2_with (first | ((with_reducible refine gate_builtin (b := .append) (xs := #[.tmp 33, .tmp 40]) rfl ?_); at_builtin; refine Kd.R_append k33 (w0 := w) w.heap.size rfl (.tmp 33) (.tmp 40) 29 33 (.agg #[(.int .u64 0), (.int .u64 0)]) 16 rfl Try.underlying29 info33 rfl (by decide) (by omega) u3 x3_1 (⟨x4_2, ji29⟩ : S33) [.int .u64 x4_2, .int .u64 ji29] (fun _ => True) (fun _ => False) rfl rfl ?aP (fun _ hk => hk.elim) ?aF ?aO ?aB ?aS ?aL ?_; (case aP => exact k33_mkM _ _ _ (⟨x4_2, ji29⟩ : S33)); (case aB => exact (by repeat (first | (with_reducible first | exact HB.out | apply below_alloc | apply pw_below_drewN | apply below_drew1 | refine below_set ?_ GE104.out) | exact HB.out))); (case aF => exact (fun _ _ => trivial)); (case aO => exact (by (with_reducible repeat (first | apply Kd.R_alloc | apply Kd.R_drewN | apply Kd.R_drew)); exact HO_3.out)); (case aS => exact (below_size (by repeat (first | (with_reducible first | exact HB.out | apply below_alloc | apply pw_below_drewN | apply below_drew1 | refine below_set ?_ GE104.out) | exact HB.out)))); (case aL => have := LMc30.out; omega); intro v112 w34 ho hb hg hat; rw [← Ny111.out] at ho; have n0_ := Aside0.mk (blk_grown (g := gb104) (o := .cells #[.int .u64 x105000_1, .int .u64 a0_1] 27 (0, 0)) (by (with_reducible repeat (first | refine blk_drewN ?_ _ | refine blk_drew ?_ | refine blk_alloc ?_ _)); exact BK104.out) hg (Kd.R_ne HO_3.out BK104.out (by decide))); have n1_ := Aside0.mk (hb); have n2_ := Aside0.mk (ho); clear BK104; clear HB; clear HO_3; have BK104 := n0_; have HB := n1_; have HO113 := n2_; clear n0_ n1_ n2_; clear ho hb hg hat; have hcz35_0 : w34.cell? ⟨gb104, 0, none⟩ = some (.int .u64 x105000_1) := (blk_cell BK104.out 0).trans rfl; have hcz35_1 : w34.cell? ⟨gb104, 1, none⟩ = some (.int .u64 a0_1) := (blk_cell BK104.out 1).trans rfl; have hfz35_0 := blk_frozen BK104.out 0; have hfz35_1 := blk_frozen BK104.out 1))
                  go_roundg k2
                  case measure => have := HK1.out; have := HK2.out; omega
                  case rel => exact ⟨(y111), (IntKind.u64.wrap (x105000_1 + (ji32))), H', ⟨by have := HK1.out; have := HK2.out; omega⟩, ⟨by (with_reducible repeat (first | apply Kd.R_alloc | apply Kd.R_drewN | apply Kd.R_drew)); exact Kd.R_mono (Kd.R_far (p := ⟨gb104, 0, none⟩) (Kd.R_types HO113.out BK104.out (by decide)) (fun _ hk => hk.2) (.int .u64 (IntKind.u64.wrap (x105000_1 + (ji32))))) (fun _ hk => trivial)⟩, ⟨by (with_reducible repeat (first | refine blk_drewN ?_ _ | refine blk_drew ?_ | refine blk_alloc ?_ _)); refine blk_put (cs := #[.int .u64 x105000_1, .int .u64 a0_1]) ?_ 0 _ rfl; (with_reducible repeat (first | refine blk_drewN ?_ _ | refine blk_drew ?_ | refine blk_alloc ?_ _)); exact BK104.out⟩, ⟨by repeat (first | (with_reducible first | exact HB.out | apply below_alloc | apply pw_below_drewN | apply below_drew1 | refine below_set ?_ GE104.out) | exact HB.out)⟩⟩
                · rw [if_neg c30] at H
                  exact absurd H (by simp)
              · rw [if_neg c28] at H
                exact absurd H (by simp)
      · rw [if_neg c3] at H
        have c3b0 : decide (x105000_1 < a0_1) = false := decide_eq_false c3
        clear c3
        obtain rfl := Option.some.inj H
        have hcz36_0 : wr.cell? ⟨gb104, 0, none⟩ = some (.int .u64 x105000_1) := (blk_cell BK104.out 0).trans rfl
        have hcz36_1 : wr.cell? ⟨gb104, 1, none⟩ = some (.int .u64 a0_1) := (blk_cell BK104.out 1).trans rfl
        have hfz36_0 := blk_frozen BK104.out 0
        have hfz36_1 := blk_frozen BK104.out 1
        go_wp2
        go_ret
        exact ⟨_, by first | rfl | (simp [errW_none, errW_some] <;> rfl) | (simp [*, errW_none, errW_some] <;> rfl), by (with_reducible repeat (first | apply Kd.R_alloc | apply Kd.R_drewN | apply Kd.R_drew)); exact HO_3.out, by repeat (first | (with_reducible first | exact HB.out | apply below_alloc | apply pw_below_drewN | apply below_drew1 | refine below_set ?_ GE104.out) | exact HB.out)⟩

/-! ### spec_Decomposed: function 6 -/
def spec_Decomposed.l0 : Nat → Int → Int → List (S33) → Int → Int → Option (Int × Int)
  | 0, _, _, _, _, _ => none
  | k + 1, x2, x3, x7, x8, x9 => if x9 < x8 then (if 0 ≤ x9 then (if x9 < (x7.length : Int) then (if (Int.tmod ((rd_T33 x7 x9).f1) 2) = 1 then (if 0 ≤ ((rd_T33 x7 x9).f0) then (spec_Decomposed.l0 k (Go.bits .or .u64 x2 (shl .u64 1 ((rd_T33 x7 x9).f0))) x3 x7 x8 (wrap64 (x9 + 1))) else (none)) else (if 0 ≤ ((rd_T33 x7 x9).f0) then (spec_Decomposed.l0 k x2 (Go.bits .or .u64 x3 (shl .u64 1 ((rd_T33 x7 x9).f0))) x7 x8 (wrap64 (x9 + 1))) else (none))) else (none)) else (none)) else (some (x2, x3))
def spec_Decomposed.f (k : Nat) (a0_0 : Int) (a0_1 : Int) : Option (Int × Int) := (spec_Nodes.f k a0_0 a0_1).bind fun t115 => (spec_Decomposed.l0 k 0 0 t115 (t115.length : Int) 0)
theorem spec_Decomposed.mono_l : ∀ k, (∀ y0 y1 y2 y3 y4, LeO (spec_Decomposed.l0 k y0 y1 y2 y3 y4) (spec_Decomposed.l0 (k + 1) y0 y1 y2 y3 y4))
  | 0 => fun _ _ _ _ _ r h => by simp [spec_Decomposed.l0] at h
  | k + 1 => by
    have ih0 := spec_Decomposed.mono_l k
    · intro y0 y1 y2 y3 y4
      unfold spec_Decomposed.l0
      repeat' first
      | (with_reducible exact ih0 _ _ _ _ _)
      | (with_reducible exact spec_Nodes.mono _ _ _)
      | (with_reducible exact LeO.refl _)
      | (with_reducible exact LeO.none _)
      | (with_reducible refine LeO.ite ?_ ?_)
      | (with_reducible refine LeO.bind ?_ (fun _ => ?_))
      | exact ih0 _ _ _ _ _
      | exact spec_Nodes.mono _ _ _
      | exact LeO.none _
      | refine LeO.ite ?_ ?_
      | refine LeO.bind ?_ (fun _ => ?_)
theorem spec_Decomposed.mono : ∀ a0 a1 k, LeO (spec_Decomposed.f k a0 a1) (spec_Decomposed.f (k + 1) a0 a1) := by
  intro a0 a1 k
  have ih0 := spec_Decomposed.mono_l k
  unfold spec_Decomposed.f
  repeat' first
      | (with_reducible exact ih0 _ _ _ _ _)
      | (with_reducible exact spec_Nodes.mono _ _ _)
      | (with_reducible exact LeO.refl _)
      | (with_reducible exact LeO.none _)
      | (with_reducible refine LeO.ite ?_ ?_)
      | (with_reducible refine LeO.bind ?_ (fun _ => ?_))
      | exact ih0 _ _ _ _ _
      | exact spec_Nodes.mono _ _ _
      | exact LeO.none _
      | refine LeO.ite ?_ ?_
      | refine LeO.bind ?_ (fun _ => ?_)
set_option maxHeartbeats 8000000 in
set_option maxRecDepth 100000 in
theorem spec_Decomposed.calls (k : Nat) (a0_0 : Int) (a0_1 : Int) (r1 : Int) (r2 : Int) (w : World) (h : spec_Decomposed.f k a0_0 a0_1 = some (r1, r2)) :
    Calls Try.prog 6 #[.agg #[.int .u64 a0_0, .int .u64 a0_1]] w fun e w' => e = .returned (.tuple #[.int .u64 r1, .int .u64 r2]) ∧ Below w.heap.size w w' := by
  have hu27 := Try.underlying27
  have hu33 := Try.underlying33
  have HB := Aside0.mk (Below.refl w.heap.size w)
  have H : ((spec_Nodes.f k a0_0 a0_1).bind fun t115 => (spec_Decomposed.l0 k 0 0 t115 (t115.length : Int) 0)) = some (r1, r2) := h
  clear h
  replace H := Option.bind_eq_some_iff.mp H
  obtain ⟨t115, A20, H⟩ := H
  replace H : (spec_Decomposed.l0 k 0 0 t115 (t115.length : Int) 0) = some (r1, r2) := H
  have A2 := Aside0.mk A20
  clear A20
  have H' := Aside0.mk H
  clear H
  go_enter Try.func6, Try.ntmps6
  go_wp2_with (first | ((with_reducible refine gate_dst (N := 1) rfl ?_); refine box_event ?hg (N := 1) ?hd (cs := #[.int .u64 a0_0, .int .u64 a0_1]) (t := 27) ?hr ?_; (case hd => rfl); (case hg => rfl); (case hr => first | (go_simp; done) | (go_simp; rfl)); intro gb114 hg w3 hbox hb; have n0_ := Aside0.mk (below_step (by repeat (first | (with_reducible first | exact HB.out | apply below_alloc | apply pw_below_drewN | apply below_drew1) | exact HB.out)) hb); have n1_ := Aside0.mk (hbox); have n2_ := Aside0.mk ((by rw [hg]; exact (below_size (by repeat (first | (with_reducible first | exact HB.out | apply below_alloc | apply pw_below_drewN | apply below_drew1) | exact HB.out))) : w.heap.size ≤ gb114)); have n3_ := Aside0.mk ((by rw [hg]; exact (below_size (by repeat (first | (with_reducible first | exact HB.out | apply below_alloc | apply pw_below_drewN | apply below_drew1) | exact HB.out))) : w.heap.size ≤ gb114)); clear HB; have HB := n0_; have BK114 := n1_; have GW114 := n2_; have GE114 := n3_; clear n0_ n1_ n2_ n3_; clear hb hbox hg; have hcz4_0 : w3.cell? ⟨gb114, 0, none⟩ = some (.int .u64 a0_0) := (blk_cell BK114.out 0).trans rfl; have hcz4_1 : w3.cell? ⟨gb114, 1, none⟩ = some (.int .u64 a0_1) := (blk_cell BK114.out 1).trans rfl; have hfz4_0 := blk_frozen BK114.out 0; have hfz4_1 := blk_frozen BK114.out 1) | ((with_reducible refine gate_callee (f := 8) rfl ?_); refine goesL_ (some 7) rfl rfl Try.func8 (by kernel_rfl) rfl #[.agg #[.int .u64 a0_0, .int .u64 a0_1]] rfl (by (try simp only [List.map_toArray, List.map_cons, List.map_nil]); first | done | rfl | (simp only [List.length_drop, List.length_take]; rfl)) ?_; (with_reducible refine (spec_Nodes.calls k a0_0 a0_1 t115 _ A2.out).mono ?_); rintro e w5 ⟨v116, rfl, ho0, hb⟩; refine ⟨_, rfl, ?_⟩; have n0_ := Aside0.mk (Kd.R_lower ho0 (below_size (by repeat (first | (with_reducible first | exact HB.out | apply below_alloc | apply pw_below_drewN | apply below_drew1 | refine below_set ?_ GE114.out) | exact HB.out)))); have n1_ := Aside0.mk (blk_below (g := gb114) (o := .cells #[.int .u64 a0_0, .int .u64 a0_1] 27 (0, 0)) (by (with_reducible repeat (first | refine blk_drewN ?_ _ | refine blk_drew ?_ | refine blk_alloc ?_ _)); exact BK114.out) hb); have n2_ := Aside0.mk (below_step (by repeat (first | (with_reducible first | exact HB.out | apply below_alloc | apply pw_below_drewN | apply below_drew1 | refine below_set ?_ GE114.out) | exact HB.out)) hb); clear BK114; clear HB; have HO117 := n0_; have BK114 := n1_; have HB := n2_; clear n0_ n1_ n2_; (try clear hb); (try clear hb2); (try clear hk); (try clear hi); (try clear ho0); obtain ⟨Ao6, co6, eo6⟩ := Kd.R_slice HO117.out; subst eo6))
  go_loopg [2, 3, 9] k (fun kq v2 v3 v9 w' => ∃ (x2_1 : Int) (x3_1 : Int) (x9_1 : Int), v2 = .int .u64 x2_1 ∧ v3 = .int .u64 x3_1 ∧ v9 = .int .i64 x9_1 ∧ Aside0 (spec_Decomposed.l0 kq x2_1 x3_1 t115 (t115.length : Int) x9_1 = some (r1, r2)) ∧ Aside0 (kq ≤ k) ∧ Aside0 (Kd.R k33 33 w' w.heap.size (fun _ => True) (.slice Ao6 t115.length co6) t115) ∧ Aside0 (w'.heap[gb114]? = some (.cells #[.int .u64 a0_0, .int .u64 a0_1] 27 (0, 0))) ∧ Aside0 (Below w.heap.size w w'))
  case atStart => exact ⟨(0), (0), (0), (by first | rfl | (simp; done) | (simp [*]; done)), (by first | rfl | (simp; done) | (simp [*]; done)), (by first | rfl | (simp; done) | (simp [*]; done)), H', ⟨Nat.le_refl _⟩, ⟨by (with_reducible repeat (first | apply Kd.R_alloc | apply Kd.R_drewN | apply Kd.R_drew)); exact HO117.out⟩, ⟨by (with_reducible repeat (first | refine blk_drewN ?_ _ | refine blk_drew ?_ | refine blk_alloc ?_ _)); exact BK114.out⟩, ⟨by repeat (first | (with_reducible first | exact HB.out | apply below_alloc | apply pw_below_drewN | apply below_drew1 | refine below_set ?_ GE114.out) | exact HB.out)⟩⟩
  case round =>
    clear H'
    try clear p2
    try clear c6
    try clear hcz4_0
    try clear hcz4_1
    try clear hfz4_0
    try clear hfz4_1
    obtain ⟨x2_1, x3_1, x9_1, rfl, rfl, rfl, HA, HK1, HO_7, BK114, HB⟩ := hrel
    cases gk with
    | zero => exact absurd HA.out (by simp [spec_Decomposed.l0])
    | succ k1 =>
      have H := HA.out
      clear HA
      simp only [spec_Decomposed.l0] at H
      by_cases c7 : x9_1 < (t115.length : Int)
      · rw [if_pos c7] at H
        have c7b0 : decide (x9_1 < (t115.length : Int)) = true := decide_eq_true c7
        clear c7
        by_cases c8 : 0 ≤ x9_1
        · rw [if_pos c8] at H
          have c8b0 : decide (0 ≤ x9_1) = true := decide_eq_true c8
          clear c8
          by_cases c9 : x9_1 < (t115.length : Int)
          · rw [if_pos c9] at H
            have c9b0 : decide (x9_1 < (t115.length : Int)) = true := decide_eq_true c9
            clear c9
            by_cases c10 : (Int.tmod ((rd_T33 t115 x9_1).f1) 2) = 1
            · rw [if_pos c10] at H
              have c10b0 : ((Int.tmod ((rd_T33 t115 x9_1).f1) 2) == 1) = true := beq_iff_eq.mpr c10
              have c10b1 : ((Int.tmod ((rd_T33 t115 x9_1).f1) 2) != 1) = false := bne_eq_false_iff_eq.mpr c10
              clear c10
              by_cases c11 : 0 ≤ ((rd_T33 t115 x9_1).f0)
              · rw [if_pos c11] at H
                have c11b0 := eq_true c11
                have c11b1 : decide (0 ≤ ((rd_T33 t115 x9_1).f0)) = true := decide_eq_true c11
                clear c11
                obtain ⟨ji12, hji12⟩ : ∃ j_ : Int, (shl .u64 1 ((rd_T33 t115 x9_1).f0)) = j_ := ⟨_, rfl⟩
                replace H : (spec_Decomposed.l0 k1 (Go.bits .or .u64 x2_1 (ji12)) x3_1 t115 (t115.length : Int) (wrap64 (x9_1 + 1))) = some (r1, r2) := by first | (rw [hji12] at H; exact H) | (simp only [hji12] at H ⊢; exact H)
                have hji12_ : (IntKind.u64.wrap (1 * 2 ^ min ((rd_T33 t115 x9_1).f0).toNat 64)) = ji12 := hji12
                have hji12z : ((rd_T33 t115 x9_1).f0) ≤ 64 → (IntKind.u64.wrap (1 * 2 ^ ((rd_T33 t115 x9_1).f0).toNat)) = ji12 := shl_small hji12
                have hji12u : (IntKind.u64.wrap (2 ^ min ((rd_T33 t115 x9_1).f0).toNat 64)) = ji12 := by have h_ := hji12_; rw [Int.one_mul] at h_; exact h_
                have hji12v : ((rd_T33 t115 x9_1).f0) ≤ 64 → (IntKind.u64.wrap (2 ^ ((rd_T33 t115 x9_1).f0).toNat)) = ji12 := fun hle_ => by have h_ := hji12z hle_; rw [Int.one_mul] at h_; exact h_
                have H' := Aside0.mk H
                clear H
                have p118 : 0 ≤ (x9_1 : Int) := of_decide_eq_true (by first | (with_reducible assumption) | assumption)
                have q118 : x9_1 < (t115.length : Int) := of_decide_eq_true (by first | (with_reducible assumption) | assumption)
                obtain ⟨ad118, e118, hx118_0, hx118_1⟩ := at_T33 (Kd.R_reads' HO_7.out).2.2 x9_1 p118 q118
                cases e118
                replace p118 := eq_true p118
                replace q118 := eq_true q118
                go_wp2_with (first | ((with_reducible refine gate_dst (N := 5) rfl ?_); refine box_event ?hg (N := 5) ?hd (cs := #[.int .u64 0, .int .u64 0]) (t := 33) ?hr ?_; (case hd => rfl); (case hg => rfl); (case hr => first | (go_simp; done) | (go_simp; rfl)); intro gb119 hg w13 hbox hb; have n0_ := Aside0.mk (Kd.R_below (Kd.R_elderB (by (with_reducible repeat (first | apply Kd.R_alloc | apply Kd.R_drewN | apply Kd.R_drew)); exact HO_7.out) gb119 (Nat.le_of_eq hg.symm)) hb); have n1_ := Aside0.mk (blk_below (g := gb114) (o := .cells #[.int .u64 a0_0, .int .u64 a0_1] 27 (0, 0)) (by (with_reducible repeat (first | refine blk_drewN ?_ _ | refine blk_drew ?_ | refine blk_alloc ?_ _)); exact BK114.out) hb); have n2_ := Aside0.mk (below_step (by repeat (first | (with_reducible first | exact HB.out | apply below_alloc | apply pw_below_drewN | apply below_drew1 | refine below_set ?_ GE114.out) | exact HB.out)) hb); have n3_ := Aside0.mk (hbox); have n4_ := Aside0.mk ((by rw [hg]; exact (below_size (by repeat (first | (with_reducible first | exact HB.out | apply below_alloc | apply pw_below_drewN | apply below_drew1 | refine below_set ?_ GE114.out) | exact HB.out))) : w.heap.size ≤ gb119)); have n5_ := Aside0.mk ((by rw [hg]; exact (below_size (by repeat (first | (with_reducible first | exact HB.out | apply below_alloc | apply pw_below_drewN | apply below_drew1 | refine below_set ?_ GE114.out) | exact HB.out))) : w.heap.size ≤ gb119)); have n6_ := Aside0.mk ((by rw [hg]; exact Nat.ne_of_lt (blk_lt (g := gb114) (o := .cells #[.int .u64 a0_0, .int .u64 a0_1] 27 (0, 0)) (by (with_reducible repeat (first | refine blk_drewN ?_ _ | refine blk_drew ?_ | refine blk_alloc ?_ _)); exact BK114.out)) : gb114 ≠ gb119)); have n7_ := Aside0.mk ((by rw [hg]; exact Nat.ne_of_gt (blk_lt (g := gb114) (o := .cells #[.int .u64 a0_0, .int .u64 a0_1] 27 (0, 0)) (by (with_reducible repeat (first | refine blk_drewN ?_ _ | refine blk_drew ?_ | refine blk_alloc ?_ _)); exact BK114.out)) : gb119 ≠ gb114)); clear HO_7; clear BK114; clear HB; have HO_7 := n0_; have BK114 := n1_; have HB := n2_; have BK119 := n3_; have GW119 := n4_; have GE119 := n5_; have NB114_119 := n6_; have NB119_114 := n7_; clear n0_ n1_ n2_ n3_ n4_ n5_ n6_ n7_; clear hb hbox hg; have hnb14 := NB119_114.out; have hnc14 := NB114_119.out; have hcz15_0 : w13.cell? ⟨gb119, 0, none⟩ = some (.int .u64 0) := (blk_cell BK119.out 0).trans rfl; have hcz15_1 : w13.cell? ⟨gb119, 1, none⟩ = some (.int .u64 0) := (blk_cell BK119.out 1).trans rfl; have hfz15_0 := blk_frozen BK119.out 0; have hfz15_1 := blk_frozen BK119.out 1))
                go_roundg k1
                case measure => have := HK1.out; omega
                case rel => exact ⟨(Go.bits .or .u64 x2_1 (ji12)), (x3_1), (wrap64 (x9_1 + 1)), (by first | rfl | (simp; done) | (simp only [← hji12] <;> (first | rfl | simp)) | (simp [*]; done)), (by first | rfl | (simp; done) | (simp [*]; done)), (by first | rfl | (simp; done) | (simp [*]; done)), H', ⟨by have := HK1.out; omega⟩, ⟨by (with_reducible repeat (first | apply Kd.R_alloc | apply Kd.R_drewN | apply Kd.R_drew)); exact Kd.R_mono (Kd.R_far (p := ⟨gb119, 1, none⟩) (Kd.R_far (p := ⟨gb119, 0, none⟩) (Kd.R_mono HO_7.out (fun k_ hk => (⟨hk, hk.2⟩ : _ ∧ k_ ≠ gb119))) (fun _ hk => hk.2) (.int .u64 ((rd_T33 t115 x9_1).f0))) (fun _ hk => hk.2) (.int .u64 ((rd_T33 t115 x9_1).f1))) (fun _ hk => trivial)⟩, ⟨by (with_reducible repeat (first | refine blk_drewN ?_ _ | refine blk_drew ?_ | refine blk_alloc ?_ _)); refine blk_far ?_ NB114_119.out _; (with_reducible repeat (first | refine blk_drewN ?_ _ | refine blk_drew ?_ | refine blk_alloc ?_ _)); refine blk_far ?_ NB114_119.out _; (with_reducible repeat (first | refine blk_drewN ?_ _ | refine blk_drew ?_ | refine blk_alloc ?_ _)); exact BK114.out⟩, ⟨by repeat (first | (with_reducible first | exact HB.out | apply below_alloc | apply pw_below_drewN | apply below_drew1 | refine below_set ?_ GE114.out | refine below_set ?_ GE119.out) | exact HB.out)⟩⟩
              · rw [if_neg c11] at H
                exact absurd H (by simp)
            · rw [if_neg c10] at H
              have c10b0 : ((Int.tmod ((rd_T33 t115 x9_1).f1) 2) == 1) = false := beq_eq_false_iff_ne.mpr c10
              have c10b1 : ((Int.tmod ((rd_T33 t115 x9_1).f1) 2) != 1) = true := bne_iff_ne.mpr c10
              by_cases c16 : 0 ≤ ((rd_T33 t115 x9_1).f0)
              · rw [if_pos c16] at H
                have c16b0 := eq_true c16
                have c16b1 : decide (0 ≤ ((rd_T33 t115 x9_1).f0)) = true := decide_eq_true c16
                clear c16
                obtain ⟨ji17, hji17⟩ : ∃ j_ : Int, (shl .u64 1 ((rd_T33 t115 x9_1).f0)) = j_ := ⟨_, rfl⟩
                replace H : (spec_Decomposed.l0 k1 x2_1 (Go.bits .or .u64 x3_1 (ji17)) t115 (t115.length : Int) (wrap64 (x9_1 + 1))) = some (r1, r2) := by first | (rw [hji17] at H; exact H) | (simp only [hji17] at H ⊢; exact H)
                have hji17_ : (IntKind.u64.wrap (1 * 2 ^ min ((rd_T33 t115 x9_1).f0).toNat 64)) = ji17 := hji17
                have hji17z : ((rd_T33 t115 x9_1).f0) ≤ 64 → (IntKind.u64.wrap (1 * 2 ^ ((rd_T33 t115 x9_1).f0).toNat)) = ji17 := shl_small hji17
                have hji17u : (IntKind.u64.wrap (2 ^ min ((rd_T33 t115 x9_1).f0).toNat 64)) = ji17 := by have h_ := hji17_; rw [Int.one_mul] at h_; exact h_
                have hji17v : ((rd_T33 t115 x9_1).f0) ≤ 64 → (IntKind.u64.wrap (2 ^ ((rd_T33 t115 x9_1).f0).toNat)) = ji17 := fun hle_ => by have h_ := hji17z hle_; rw [Int.one_mul] at h_; exact h_
                have H' := Aside0.mk H
                clear H
                have p118 : 0 ≤ (x9_1 : Int) := of_decide_eq_true (by first | (with_reducible assumption) | assumption)
                have q118 : x9_1 < (t115.length : Int) := of_decide_eq_true (by first | (with_reducible assumption) | assumption)
                obtain ⟨ad118, e118, hx118_0, hx118_1⟩ := at_T33 (Kd.R_reads' HO_7.out).2.2 x9_1 p118 q118
                cases e118
                replace p118 := eq_true p118
                replace q118 := eq_true q118
                go_wp2_with (first | ((with_reducible refine gate_dst (N := 5) rfl ?_); refine box_event ?hg (N := 5) ?hd (cs := #[.int .u64 0, .int .u64 0]) (t := 33) ?hr ?_; (case hd => rfl); (case hg => rfl); (case hr => first | (go_simp; done) | (go_simp; rfl)); intro gb119 hg w18 hbox hb; have n0_ := Aside0.mk (Kd.R_below (Kd.R_elderB (by (with_reducible repeat (first | apply Kd.R_alloc | apply Kd.R_drewN | apply Kd.R_drew)); exact HO_7.out) gb119 (Nat.le_of_eq hg.symm)) hb); have n1_ := Aside0.mk (blk_below (g := gb114) (o := .cells #[.int .u64 a0_0, .int .u64 a0_1] 27 (0, 0)) (by (with_reducible repeat (first | refine blk_drewN ?_ _ | refine blk_drew ?_ | refine blk_alloc ?_ _)); exact BK114.out) hb); have n2_ := Aside0.mk (below_step (by repeat (first | (with_reducible first | exact HB.out | apply below_alloc | apply pw_below_drewN | apply below_drew1 | refine below_set ?_ GE114.out) | exact HB.out)) hb); have n3_ := Aside0.mk (hbox); have n4_ := Aside0.mk ((by rw [hg]; exact (below_size (by repeat (first | (with_reducible first | exact HB.out | apply below_alloc | apply pw_below_drewN | apply below_drew1 | refine below_set ?_ GE114.out) | exact HB.out))) : w.heap.size ≤ gb119)); have n5_ := Aside0.mk ((by rw [hg]; exact (below_size (by repeat (first | (with_reducible first | exact HB.out | apply below_alloc | apply pw_below_drewN | apply below_drew1 | refine below_set ?_ GE114.out) | exact HB.out))) : w.heap.size ≤ gb119)); have n6_ := Aside0.mk ((by rw [hg]; exact Nat.ne_of_lt (blk_lt (g := gb114) (o := .cells #[.int .u64 a0_0, .int .u64 a0_1] 27 (0, 0)) (by (with_reducible repeat (first | refine blk_drewN ?_ _ | refine blk_drew ?_ | refine blk_alloc ?_ _)); exact BK114.out)) : gb114 ≠ gb119)); have n7_ := Aside0.mk ((by rw [hg]; exact Nat.ne_of_gt (blk_lt (g := gb114) (o := .cells #[.int .u64 a0_0, .int .u64 a0_1] 27 (0, 0)) (by (with_reducible repeat (first | refine blk_drewN ?_ _ | refine blk_drew ?_ | refine blk_alloc ?_ _)); exact BK114.out)) : gb119 ≠ gb114)); clear HO_7; clear BK114; clear HB; have HO_7 := n0_; have BK114 := n1_; have HB := n2_; have BK119 := n3_; have GW119 := n4_; have GE119 := n5_; have NB114_119 := n6_; have NB119_114 := n7_; clear n0_ n1_ n2_ n3_ n4_ n5_ n6_ n7_; clear hb hbox hg; have hnb19 := NB119_114.out; have hnc19 := NB114_119.out; have hcz20_0 : w18.cell? ⟨gb119, 0, none⟩ = some (.int .u64 0) := (blk_cell BK119.out 0).trans rfl; have hcz20_1 : w18.cell? ⟨gb119, 1, none⟩ = some (.int .u64 0) := (blk_cell BK119.out 1).trans rfl; have hfz20_0 := blk_frozen BK119.out 0; have hfz20_1 := blk_frozen BK119.out 1))
                go_roundg k1
                case measure => have := HK1.out; omega
                case rel => exact ⟨(x2_1), (Go.bits .or .u64 x3_1 (ji17)), (wrap64 (x9_1 + 1)), (by first | rfl | (simp; done) | (simp [*]; done)), (by first | rfl | (simp; done) | (simp only [← hji17] <;> (first | rfl | simp)) | (simp [*]; done)), (by first | rfl | (simp; done) | (simp [*]; done)), H', ⟨by have := HK1.out; omega⟩, ⟨by (with_reducible repeat (first | apply Kd.R_alloc | apply Kd.R_drewN | apply Kd.R_drew)); exact Kd.R_mono (Kd.R_far (p := ⟨gb119, 1, none⟩) (Kd.R_far (p := ⟨gb119, 0, none⟩) (Kd.R_mono HO_7.out (fun k_ hk => (⟨hk, hk.2⟩ : _ ∧ k_ ≠ gb119))) (fun _ hk => hk.2) (.int .u64 ((rd_T33 t115 x9_1).f0))) (fun _ hk => hk.2) (.int .u64 ((rd_T33 t115 x9_1).f1))) (fun _ hk => trivial)⟩, ⟨by (with_reducible repeat (first | refine blk_drewN ?_ _ | refine blk_drew ?_ | refine blk_alloc ?_ _)); refine blk_far ?_ NB114_119.out _; (with_reducible repeat (first | refine blk_drewN ?_ _ | refine blk_drew ?_ | refine blk_alloc ?_ _)); refine blk_far ?_ NB114_119.out _; (with_reducible repeat (first | refine blk_drewN ?_ _ | refine blk_drew ?_ | refine blk_alloc ?_ _)); exact BK114.out⟩, ⟨by repeat (first | (with_reducible first | exact HB.out | apply below_alloc | apply pw_below_drewN | apply below_drew1 | refine below_set ?_ GE114.out | refine below_set ?_ GE119.out) | exact HB.out)⟩⟩
              · rw [if_neg c16] at H
                exact absurd H (by simp)
          · rw [if_neg c9] at H
            exact absurd H (by simp)
        · rw [if_neg c8] at H
          exact absurd H (by simp)
      · rw [if_neg c7] at H
        have c7b0 : decide (x9_1 < (t115.length : Int)) = false := decide_eq_false c7
        clear c7
        simp only [Option.some.injEq, Prod.mk.injEq] at H
        obtain ⟨rfl, rfl⟩ := H
        go_wp2
        go_ret2
        exact ⟨by first | rfl | (simp [errW_none, errW_some] <;> rfl) | (simp [*, errW_none, errW_some] <;> rfl), by repeat (first | (with_reducible first | exact HB.out | apply below_alloc | apply pw_below_drewN | apply below_drew1 | refine below_set ?_ GE114.out) | exact HB.out)⟩

/-! ### laws_FnDecompose: function 3 -/
def laws_FnDecompose.f (k : Nat) (a0 : Int) (a1 : Int) : Option (Bool) := if a0 > a1 then (some true) else ((impl_Decompose.f a0 a1).bind fun bt120 => ((spec_Decomposed.f k a0 a1).bind fun bt122 => (if bt120.1 = bt122.1 then (some (bt120.2 == bt122.2)) else (some false))))
theorem laws_FnDecompose.mono : ∀ a0 a1 k, LeO (laws_FnDecompose.f k a0 a1) (laws_FnDecompose.f (k + 1) a0 a1) := by
  intro a0 a1 k
  unfold laws_FnDecompose.f
  repeat' first
      | (with_reducible exact spec_Decomposed.mono _ _ _)
      | (with_reducible exact LeO.refl _)
      | (with_reducible exact LeO.none _)
      | (with_reducible refine LeO.ite ?_ ?_)
      | (with_reducible refine LeO.bind ?_ (fun _ => ?_))
      | exact spec_Decomposed.mono _ _ _
      | exact LeO.none _
      | refine LeO.ite ?_ ?_
      | refine LeO.bind ?_ (fun _ => ?_)
set_option maxHeartbeats 8000000 in
set_option maxRecDepth 100000 in
theorem laws_FnDecompose.calls (k : Nat) (a0 : Int) (a1 : Int) (r : Bool) (w : World) (h : laws_FnDecompose.f k a0 a1 = some r) :
    Calls Try.prog 3 #[.int .u64 a0, .int .u64 a1] w fun e w' => e = .returned (.bool r) ∧ Below w.heap.size w w' := by
  have hu27 := Try.underlying27
  have HB := Aside0.mk (Below.refl w.heap.size w)
  have H : (if a0 > a1 then (some true) else ((impl_Decompose.f a0 a1).bind fun bt120 => ((spec_Decomposed.f k a0 a1).bind fun bt122 => (if bt120.1 = bt122.1 then (some (bt120.2 == bt122.2)) else (some false))))) = some r := h
  clear h
  by_cases c3 : a0 > a1
  · rw [if_pos c3] at H
    have c3b0 : decide (a1 < a0) = true := decide_eq_true c3
    clear c3
    obtain rfl := Option.some.inj H
    go_enter Try.func3, Try.ntmps3
    go_wp2
    go_ret
    exact ⟨by first | rfl | (simp [errW_none, errW_some] <;> rfl) | (simp [*, errW_none, errW_some] <;> rfl), by repeat (first | (with_reducible first | exact HB.out | apply below_alloc | apply pw_below_drewN | apply below_drew1) | exact HB.out)⟩
  · rw [if_neg c3] at H
    have c3b0 : decide (a1 < a0) = false := decide_eq_false c3
    clear c3
    replace H := Option.bind_eq_some_iff.mp H
    obtain ⟨⟨t120, t121⟩, A40, H⟩ := H
    replace H : ((spec_Decomposed.f k a0 a1).bind fun bt122 => (if t120 = bt122.1 then (some (t121 == bt122.2)) else (some false))) = some r := H
    have A4 := Aside0.mk A40
    clear A40
    replace H := Option.bind_eq_some_iff.mp H
    obtain ⟨⟨t122, t123⟩, A50, H⟩ := H
    replace H : (if t120 = t122 then (some (t121 == t123)) else (some false)) = some r := H
    have A5 := Aside0.mk A50
    clear A50
    by_cases c6 : t120 = t122
    · rw [if_pos c6] at H
      have c6b0 : (t120 == t122) = true := beq_iff_eq.mpr c6
      have c6b1 : (t120 != t122) = false := bne_eq_false_iff_eq.mpr c6
      clear c6
      obtain rfl := Option.some.inj H
      go_enter Try.func3, Try.ntmps3
      go_wp2_with (first | ((with_reducible refine gate_callee (f := 5) rfl ?_); refine goesL_ (some 15) rfl rfl Try.func5 (by kernel_rfl) rfl #[.int .u64 a0, .int .u64 a1] rfl (by (try simp only [List.map_toArray, List.map_cons, List.map_nil]); first | done | rfl | (simp only [List.length_drop, List.length_take]; rfl)) ?_; (with_reducible refine (impl_Decompose.calls a0 a1 t120 t121 _ A4.out).mono ?_); rintro e w' ⟨rfl, ⟨nd, rfl⟩⟩; refine ⟨_, rfl, ?_⟩) | ((with_reducible refine gate_callee (f := 6) rfl ?_); refine goesL_ (some 22) rfl rfl Try.func6 (by kernel_rfl) rfl #[.agg #[.int .u64 a0, .int .u64 a1]] rfl (by (try simp only [List.map_toArray, List.map_cons, List.map_nil]); first | done | rfl | (simp only [List.length_drop, List.length_take]; rfl)) ?_; (with_reducible refine (spec_Decomposed.calls k a0 a1 t122 t123 _ A5.out).mono ?_); rintro e w7 ⟨rfl, hb⟩; refine ⟨_, rfl, ?_⟩; have n0_ := Aside0.mk (below_step (by repeat (first | (with_reducible first | exact HB.out | apply below_alloc | apply pw_below_drewN | apply below_drew1) | exact HB.out)) hb); clear HB; have HB := n0_; clear n0_; (try clear hb); (try clear hb2); (try clear hk); (try clear hi)))
      go_ret
      exact ⟨by first | rfl | (simp [errW_none, errW_some] <;> rfl) | (simp [*, errW_none, errW_some] <;> rfl), by repeat (first | (with_reducible first | exact HB.out | apply below_alloc | apply pw_below_drewN | apply below_drew1) | exact HB.out)⟩
    · rw [if_neg c6] at H
      have c6b0 : (t120 == t122) = false := beq_eq_false_iff_ne.mpr c6
      have c6b1 : (t120 != t122) = true := bne_iff_ne.mpr c6
      obtain rfl := Option.some.inj H
      go_enter Try.func3, Try.ntmps3
      go_wp2_with (first | ((with_reducible refine gate_callee (f := 5) rfl ?_); refine goesL_ (some 15) rfl rfl Try.func5 (by kernel_rfl) rfl #[.int .u64 a0, .int .u64 a1] rfl (by (try simp only [List.map_toArray, List.map_cons, List.map_nil]); first | done | rfl | (simp only [List.length_drop, List.length_take]; rfl)) ?_; (with_reducible refine (impl_Decompose.calls a0 a1 t120 t121 _ A4.out).mono ?_); rintro e w' ⟨rfl, ⟨nd, rfl⟩⟩; refine ⟨_, rfl, ?_⟩) | ((with_reducible refine gate_callee (f := 6) rfl ?_); refine goesL_ (some 22) rfl rfl Try.func6 (by kernel_rfl) rfl #[.agg #[.int .u64 a0, .int .u64 a1]] rfl (by (try simp only [List.map_toArray, List.map_cons, List.map_nil]); first | done | rfl | (simp only [List.length_drop, List.length_take]; rfl)) ?_; (with_reducible refine (spec_Decomposed.calls k a0 a1 t122 t123 _ A5.out).mono ?_); rintro e w8 ⟨rfl, hb⟩; refine ⟨_, rfl, ?_⟩; have n0_ := Aside0.mk (below_step (by repeat (first | (with_reducible first | exact HB.out | apply below_alloc | apply pw_below_drewN | apply below_drew1) | exact HB.out)) hb); clear HB; have HB := n0_; clear n0_; (try clear hb); (try clear hb2); (try clear hk); (try clear hi)))
      go_ret
      exact ⟨by first | rfl | (simp [errW_none, errW_some] <;> rfl) | (simp [*, errW_none, errW_some] <;> rfl), by repeat (first | (with_reducible first | exact HB.out | apply below_alloc | apply pw_below_drewN | apply below_drew1) | exact HB.out)⟩

/-- THE ONE PURE STATEMENT of laws_FnDecompose: yours. -/
def laws_FnDecompose.Pure : Prop := ∀ (a0 : Int) (a1 : Int), (Lit.int .u64 a0).wf = true → (Lit.int .u64 a1).wf = true → ∃ k, laws_FnDecompose.f k a0 a1 = some true
theorem laws_FnDecompose.walk (P : laws_FnDecompose.Pure) (a0 : Int) (a1 : Int) (w : World) (w0 : (Lit.int .u64 a0).wf = true) (w1 : (Lit.int .u64 a1).wf = true) :
    Calls Try.prog 3 #[.int .u64 a0, .int .u64 a1] w fun e w' => e = .returned (.bool true) ∧ Below w.heap.size w w' := by
  obtain ⟨k, h⟩ := P a0 a1 w0 w1
  refine (laws_FnDecompose.calls k a0 a1 true w h).mono ?_
  rintro e w' ⟨rfl, hd⟩
  exact ⟨rfl, hd⟩

/-! ### laws_FnDecomposeSum: function 4 -/
def laws_FnDecomposeSum.j0 : Nat → Int → Int → Int → Int → Bool → Option (Bool)
  | 0, _, _, _, _, _ => none
  | k + 1, x0, x1, x5, x6, x26 => if x26 = true then (some false) else (if (Go.bits .and .u64 x1 (IntKind.u64.wrap (x1 - 1))) = 0 then (if x0 > 0 then (if x6 = 0 then (some ((IntKind.u64.wrap (x5 + x6)) == (IntKind.u64.wrap (x1 - x0)))) else (some false)) else (some ((IntKind.u64.wrap (x5 + x6)) == (IntKind.u64.wrap (x1 - x0))))) else (some ((IntKind.u64.wrap (x5 + x6)) == (IntKind.u64.wrap (x1 - x0)))))
def laws_FnDecomposeSum.f (k : Nat) (a0 : Int) (a1 : Int) : Option (Bool) := if a0 > a1 then (some true) else ((impl_Decompose.f a0 a1).bind fun bt124 => (if a0 = 0 then (if bt124.1 = 0 then (laws_FnDecomposeSum.j0 k a0 a1 bt124.1 bt124.2 (bt124.2 != a1)) else (laws_FnDecomposeSum.j0 k a0 a1 bt124.1 bt124.2 true)) else (laws_FnDecomposeSum.j0 k a0 a1 bt124.1 bt124.2 false)))
theorem laws_FnDecomposeSum.mono_l : ∀ k, (∀ y0 y1 y2 y3 y4, LeO (laws_FnDecomposeSum.j0 k y0 y1 y2 y3 y4) (laws_FnDecomposeSum.j0 (k + 1) y0 y1 y2 y3 y4))
  | 0 => fun _ _ _ _ _ r h => by simp [laws_FnDecomposeSum.j0] at h
  | k + 1 => by
    have ih0 := laws_FnDecomposeSum.mono_l k
    · intro y0 y1 y2 y3 y4
      unfold laws_FnDecomposeSum.j0
      repeat' first
      | (with_reducible exact ih0 _ _ _ _ _)
      | (with_reducible exact LeO.refl _)
      | (with_reducible exact LeO.none _)
      | (with_reducible refine LeO.ite ?_ ?_)
      | (with_reducible refine LeO.bind ?_ (fun _ => ?_))
      | exact ih0 _ _ _ _ _
      | exact LeO.none _
      | refine LeO.ite ?_ ?_
      | refine LeO.bind ?_ (fun _ => ?_)
theorem laws_FnDecomposeSum.mono : ∀ a0 a1 k, LeO (laws_FnDecomposeSum.f k a0 a1) (laws_FnDecomposeSum.f (k + 1) a0 a1) := by
  intro a0 a1 k
  have ih0 := laws_FnDecomposeSum.mono_l k
  unfold laws_FnDecomposeSum.f
  repeat' first
      | (with_reducible exact ih0 _ _ _ _ _)
      | (with_reducible exact LeO.refl _)
      | (with_reducible exact LeO.none _)
      | (with_reducible refine LeO.ite ?_ ?_)
      | (with_reducible refine LeO.bind ?_ (fun _ => ?_))
      | exact ih0 _ _ _ _ _
      | exact LeO.none _
      | refine LeO.ite ?_ ?_
      | refine LeO.bind ?_ (fun _ => ?_)
set_option maxHeartbeats 8000000 in
set_option maxRecDepth 100000 in
theorem laws_FnDecomposeSum.calls (k : Nat) (a0 : Int) (a1 : Int) (r : Bool) (w : World) (h : laws_FnDecomposeSum.f k a0 a1 = some r) :
    Calls Try.prog 4 #[.int .u64 a0, .int .u64 a1] w fun e w' => e = .returned (.bool r) ∧ Drawn0 w w' := by
  have H : (if a0 > a1 then (some true) else ((impl_Decompose.f a0 a1).bind fun bt124 => (if a0 = 0 then (if bt124.1 = 0 then (laws_FnDecomposeSum.j0 k a0 a1 bt124.1 bt124.2 (bt124.2 != a1)) else (laws_FnDecomposeSum.j0 k a0 a1 bt124.1 bt124.2 true)) else (laws_FnDecomposeSum.j0 k a0 a1 bt124.1 bt124.2 false)))) = some r := h
  clear h
  by_cases c3 : a0 > a1
  · rw [if_pos c3] at H
    have c3b0 : decide (a1 < a0) = true := decide_eq_true c3
    clear c3
    obtain rfl := Option.some.inj H
    go_enter Try.func4, Try.ntmps4
    go_wp2
    go_ret
    exact ⟨by first | rfl | (simp; done) | (simp [*]; done), by repeat (first | exact Drawn0.refl _ | apply Drawn0.step)⟩
  · rw [if_neg c3] at H
    have c3b0 : decide (a1 < a0) = false := decide_eq_false c3
    clear c3
    replace H := Option.bind_eq_some_iff.mp H
    obtain ⟨⟨t124, t125⟩, A40, H⟩ := H
    replace H : (if a0 = 0 then (if t124 = 0 then (laws_FnDecomposeSum.j0 k a0 a1 t124 t125 (t125 != a1)) else (laws_FnDecomposeSum.j0 k a0 a1 t124 t125 true)) else (laws_FnDecomposeSum.j0 k a0 a1 t124 t125 false)) = some r := H
    have A4 := Aside0.mk A40
    clear A40
    have HC5 := Aside0.mk H
    clear H
    go_enter Try.func4, Try.ntmps4
    go_upto_region 4 with (first | ((with_reducible refine gate_callee (f := 5) rfl ?_); refine goesL_ (some 13) rfl rfl Try.func5 (by kernel_rfl) rfl #[.int .u64 a0, .int .u64 a1] rfl (by (try simp only [List.map_toArray, List.map_cons, List.map_nil]); first | done | rfl | (simp only [List.length_drop, List.length_take]; rfl)) ?_; (with_reducible refine (impl_Decompose.calls a0 a1 t124 t125 _ A4.out).mono ?_); rintro e w' ⟨rfl, ⟨nd, rfl⟩⟩; refine ⟨_, rfl, ?_⟩))
    (try simp only [Act.put, List.setIfInBounds_toArray, List.set_cons_zero, List.set_cons_succ])
    go_cut [26] (fun v26 wc => ∃ (kq : Nat) (x26_4 : Bool), v26 = .bool x26_4 ∧ Aside0 (laws_FnDecomposeSum.j0 kq a0 a1 t124 t125 x26_4 = some r) ∧ Aside0 (kq ≤ k) ∧ Drawn0 w wc)
    case first =>
      have H := HC5.out
      clear HC5
      by_cases c6 : a0 = 0
      · rw [if_pos c6] at H
        have c6b0 : (a0 == 0) = true := beq_iff_eq.mpr c6
        have c6b1 : (a0 != 0) = false := bne_eq_false_iff_eq.mpr c6
        clear c6
        (first | rw [c6b0] | (simp only [i64_w, i32_w]; rw [c6b0]) | skip)
        by_cases c7 : t124 = 0
        · rw [if_pos c7] at H
          have c7b0 : (t124 == 0) = true := beq_iff_eq.mpr c7
          have c7b1 : (t124 != 0) = false := bne_eq_false_iff_eq.mpr c7
          clear c7
          have H' := Aside0.mk H
          clear H
          go_wp2
          go_meet
          case rel => exact ⟨_, ((t125 != a1)), (by first | rfl | (simp; done) | (simp [*]; done)), H', ⟨by first | omega | exact Nat.le_refl _⟩, by repeat (first | exact Drawn0.refl _ | apply Drawn0.step)⟩
        · rw [if_neg c7] at H
          have c7b0 : (t124 == 0) = false := beq_eq_false_iff_ne.mpr c7
          have c7b1 : (t124 != 0) = true := bne_iff_ne.mpr c7
          have H' := Aside0.mk H
          clear H
          go_wp2
          go_meet
          case rel => exact ⟨_, (true), (by first | rfl | (simp; done) | (simp [*]; done)), H', ⟨by first | omega | exact Nat.le_refl _⟩, by repeat (first | exact Drawn0.refl _ | apply Drawn0.step)⟩
      · rw [if_neg c6] at H
        have c6b0 : (a0 == 0) = false := beq_eq_false_iff_ne.mpr c6
        have c6b1 : (a0 != 0) = true := bne_iff_ne.mpr c6
        (first | rw [c6b0] | (simp only [i64_w, i32_w]; rw [c6b0]) | skip)
        have H' := Aside0.mk H
        clear H
        go_wp2
        go_meet
        case rel => exact ⟨_, (false), (by first | rfl | (simp; done) | (simp [*]; done)), H', ⟨by first | omega | exact Nat.le_refl _⟩, by repeat (first | exact Drawn0.refl _ | apply Drawn0.step)⟩
    case rest =>
      clear HC5
      try clear p2
      try clear c3
      try clear c3b0
      try clear c4
      try clear c5
      try clear c6
      try clear c6b0
      try clear c6b1
      try clear c7
      try clear c7b0
      try clear c7b1
      obtain ⟨kq, x26_4, rfl, HA, HJ4, ⟨mc4, rfl⟩⟩ := hcut
      cases kq with
      | zero => exact absurd HA.out (by simp [laws_FnDecomposeSum.j0])
      | succ kj4 =>
        have H := HA.out
        clear HA
        simp only [laws_FnDecomposeSum.j0] at H
        by_cases c8 : x26_4 = true
        · subst c8
          have H1 : (some false) = some r := by rw [if_pos rfl] at H; exact H
          clear H
          have H := H1
          clear H1
          obtain rfl := Option.some.inj H
          go_wp2
          go_ret
          exact ⟨by first | rfl | (simp; done) | (simp [*]; done), by repeat (first | exact Drawn0.refl _ | apply Drawn0.step)⟩
        · replace c8 := Bool.eq_false_iff.mpr c8
          subst c8
          have H1 : (if (Go.bits .and .u64 a1 (IntKind.u64.wrap (a1 - 1))) = 0 then (if a0 > 0 then (if t125 = 0 then (some ((IntKind.u64.wrap (t124 + t125)) == (IntKind.u64.wrap (a1 - a0)))) else (some false)) else (some ((IntKind.u64.wrap (t124 + t125)) == (IntKind.u64.wrap (a1 - a0))))) else (some ((IntKind.u64.wrap (t124 + t125)) == (IntKind.u64.wrap (a1 - a0))))) = some r := by rw [if_neg (show ¬ (false = true) by decide)] at H; exact H
          clear H
          have H := H1
          clear H1
          by_cases c9 : (Go.bits .and .u64 a1 (IntKind.u64.wrap (a1 - 1))) = 0
          · rw [if_pos c9] at H
            have c9b0 : ((Go.bits .and .u64 a1 (IntKind.u64.wrap (a1 - 1))) == 0) = true := beq_iff_eq.mpr c9
            have c9b1 : ((Go.bits .and .u64 a1 (IntKind.u64.wrap (a1 - 1))) != 0) = false := bne_eq_false_iff_eq.mpr c9
            clear c9
            by_cases c10 : a0 > 0
            · rw [if_pos c10] at H
              have c10b0 : decide (0 < a0) = true := decide_eq_true c10
              clear c10
              by_cases c11 : t125 = 0
              · rw [if_pos c11] at H
                have c11b0 : (t125 == 0) = true := beq_iff_eq.mpr c11
                have c11b1 : (t125 != 0) = false := bne_eq_false_iff_eq.mpr c11
                clear c11
                obtain rfl := Option.some.inj H
                go_wp2
                go_ret
                exact ⟨by first | rfl | (simp; done) | (simp [*]; done), by repeat (first | exact Drawn0.refl _ | apply Drawn0.step)⟩
              · rw [if_neg c11] at H
                have c11b0 : (t125 == 0) = false := beq_eq_false_iff_ne.mpr c11
                have c11b1 : (t125 != 0) = true := bne_iff_ne.mpr c11
                obtain rfl := Option.some.inj H
                go_wp2
                go_ret
                exact ⟨by first | rfl | (simp; done) | (simp [*]; done), by repeat (first | exact Drawn0.refl _ | apply Drawn0.step)⟩
            · rw [if_neg c10] at H
              have c10b0 : decide (0 < a0) = false := decide_eq_false c10
              clear c10
              obtain rfl := Option.some.inj H
              go_wp2
              go_ret
              exact ⟨by first | rfl | (simp; done) | (simp [*]; done), by repeat (first | exact Drawn0.refl _ | apply Drawn0.step)⟩
          · rw [if_neg c9] at H
            have c9b0 : ((Go.bits .and .u64 a1 (IntKind.u64.wrap (a1 - 1))) == 0) = false := beq_eq_false_iff_ne.mpr c9
            have c9b1 : ((Go.bits .and .u64 a1 (IntKind.u64.wrap (a1 - 1))) != 0) = true := bne_iff_ne.mpr c9
            obtain rfl := Option.some.inj H
            go_wp2
            go_ret
            exact ⟨by first | rfl | (simp; done) | (simp [*]; done), by repeat (first | exact Drawn0.refl _ | apply Drawn0.step)⟩

/-- THE ONE PURE STATEMENT of laws_FnDecomposeSum: yours. -/
def laws_FnDecomposeSum.Pure : Prop := ∀ (a0 : Int) (a1 : Int), (Lit.int .u64 a0).wf = true → (Lit.int .u64 a1).wf = true → ∃ k, laws_FnDecomposeSum.f k a0 a1 = some true
theorem laws_FnDecomposeSum.walk (P : laws_FnDecomposeSum.Pure) (a0 : Int) (a1 : Int) (w : World) (w0 : (Lit.int .u64 a0).wf = true) (w1 : (Lit.int .u64 a1).wf = true) :
    Calls Try.prog 4 #[.int .u64 a0, .int .u64 a1] w fun e w' => e = .returned (.bool true) ∧ Below w.heap.size w w' := by
  obtain ⟨k, h⟩ := P a0 a1 w0 w1
  refine (laws_FnDecomposeSum.calls k a0 a1 true w h).mono ?_
  rintro e w' ⟨rfl, hd⟩
  exact ⟨rfl, hd.below⟩

end Go.Proofs.Ytmcelgfekffinaa.Q
