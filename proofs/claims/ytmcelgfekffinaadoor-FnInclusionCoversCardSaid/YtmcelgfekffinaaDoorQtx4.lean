-- Written by wip/tools/myprint.py for this seat (the kit's print with changes); Lean checks it.
import Derived.Test.YtmcelgfekffinaaDoorQtx0
import Derived.Test.YtmcelgfekffinaaDoorQtx2
import Derived.Test.YtmcelgfekffinaaDoorQtx3
namespace Go.Proofs.YtmcelgfekffinaaDoor.Qt
open Go.RowKit Go.Proofs.YtmcelgfekffinaaDoorW.PrintWords Go.Proofs.YtmcelgfekffinaaDoorW.PrintLast Go.Proofs.YtmcelgfekffinaaDoorW.PrintMore
attribute [local go_sem] max2_int min2_int max_two min_two max_three min_three max_four min_four   -- for this text's walks alone
set_option linter.unusedVariables false
set_option linter.unusedSimpArgs false

/-! ### proof_nodes: function 39 -/
def proof_nodes.l0 : Nat → Int → Int → Int → Int → Int → List (S46) → Int → Int → Int → Int → Option ((List (S46)) × Int × Int × Int × Int)
  | 0, _, _, _, _, _, _, _, _, _, _ => none
  | k + 1, x2, x9, x10, x11, x12, x14, x162000, x162001, x169000, x169001 => if x169000 < x162000 then ((compact_NodeID_Sibling.f x169000 x169001).bind fun bt178 => ((some (([(⟨bt178.1, bt178.2⟩ : S46)] : List (S46)) : List (S46))).bind fun y180 => (if x14.length + y180.length < 8796093022208 then ((compact_NodeID_Parent.f x169000 x169001).bind fun bt186 => (proof_nodes.l0 k x2 x9 x10 x11 x12 (x14 ++ y180) x162000 x162001 bt186.1 bt186.2)) else (none)))) else ((compact_RangeNodes.f k x10 x2 x14).bind fun t188 => ((proof_revtail.f k t188 (wrap64 ((t188.length : Int) - x12))).bind fun t191 => ((compact_RangeNodes.f k 0 x9 t191).bind fun t192 => ((proof_revtail.f k t192 (wrap64 ((t192.length : Int) - x11))).bind fun t195 => (if (x14.length : Int) ≥ (t188.length : Int) then ((compact_NodeID_Sibling.f x162000 x162001).bind fun bt196 => (some (t195, 0, 0, bt196.1, bt196.2))) else ((compact_NodeID_Sibling.f x162000 x162001).bind fun bt198 => (some (t195, (x14.length : Int), (t188.length : Int), bt198.1, bt198.2))))))))
def proof_nodes.f (k : Nat) (a0 : Int) (a1 : Int) (a2 : Int) : Option ((List (S46)) × Int × Int × Int × Int) := if 0 ≤ a1 then ((bits_Len64.f (Go.bits .xor .u64 a0 (shr .u64 a2 a1))).bind fun t158 => (if 0 ≤ (wrap64 (t158 - 1)) then ((compact_NewNodeID.f (IntKind.u64.wrap (a1 + (IntKind.u64.wrap (wrap64 (t158 - 1))))) (shr .u64 a0 (wrap64 (t158 - 1)))).bind fun bt159 => ((compact_NodeID_Coverage.f bt159.1 bt159.2).bind fun bt162 => ((compact_RangeSize.f 0 bt162.1).bind fun t164 => ((compact_RangeSize.f bt162.2 a2).bind fun t165 => ((compact_NewNodeID.f a1 a0).bind fun bt166 => (if 0 ≤ (wrap64 ((wrap64 ((wrap64 (1 + (wrap64 (t158 - 1)))) + t165)) + t164)) then (if (wrap64 ((wrap64 ((wrap64 (1 + (wrap64 (t158 - 1)))) + t165)) + t164) : Int).toNat ≤ 17592186044416 then ((some (([] : List (S46)) : List (S46))).bind fun y169 => ((some (([(⟨bt166.1, bt166.2⟩ : S46)] : List (S46)) : List (S46))).bind fun y172 => (if y169.length + y172.length < 8796093022208 then (proof_nodes.l0 k a2 bt162.1 bt162.2 t164 t165 (y169 ++ y172) bt159.1 bt159.2 bt166.1 bt166.2) else (none)))) else (none)) else (none))))))) else (none))) else (none)
theorem proof_nodes.mono_l : ∀ k, (∀ y0 y1 y2 y3 y4 y5 y6 y7 y8 y9, LeO (proof_nodes.l0 k y0 y1 y2 y3 y4 y5 y6 y7 y8 y9) (proof_nodes.l0 (k + 1) y0 y1 y2 y3 y4 y5 y6 y7 y8 y9))
  | 0 => fun _ _ _ _ _ _ _ _ _ _ r h => by simp [proof_nodes.l0] at h
  | k + 1 => by
    have ih0 := proof_nodes.mono_l k
    · intro y0 y1 y2 y3 y4 y5 y6 y7 y8 y9
      unfold proof_nodes.l0
      repeat' first
      | (with_reducible exact ih0 _ _ _ _ _ _ _ _ _ _)
      | (with_reducible exact compact_RangeNodes.mono _ _ _ _)
      | (with_reducible exact proof_revtail.mono _ _ _)
      | (with_reducible exact LeO.refl _)
      | (with_reducible exact LeO.none _)
      | (with_reducible refine LeO.ite ?_ ?_)
      | (with_reducible refine LeO.bind ?_ (fun _ => ?_))
      | exact ih0 _ _ _ _ _ _ _ _ _ _
      | exact compact_RangeNodes.mono _ _ _ _
      | exact proof_revtail.mono _ _ _
      | exact LeO.none _
      | refine LeO.ite ?_ ?_
      | refine LeO.bind ?_ (fun _ => ?_)
theorem proof_nodes.mono : ∀ a0 a1 a2 k, LeO (proof_nodes.f k a0 a1 a2) (proof_nodes.f (k + 1) a0 a1 a2) := by
  intro a0 a1 a2 k
  have ih0 := proof_nodes.mono_l k
  unfold proof_nodes.f
  repeat' first
      | (with_reducible exact ih0 _ _ _ _ _ _ _ _ _ _)
      | (with_reducible exact compact_RangeNodes.mono _ _ _ _)
      | (with_reducible exact proof_revtail.mono _ _ _)
      | (with_reducible exact LeO.refl _)
      | (with_reducible exact LeO.none _)
      | (with_reducible refine LeO.ite ?_ ?_)
      | (with_reducible refine LeO.bind ?_ (fun _ => ?_))
      | exact ih0 _ _ _ _ _ _ _ _ _ _
      | exact compact_RangeNodes.mono _ _ _ _
      | exact proof_revtail.mono _ _ _
      | exact LeO.none _
      | refine LeO.ite ?_ ?_
      | refine LeO.bind ?_ (fun _ => ?_)
def proof_nodes.T7 : Bool × List (List Nat × List Nat) := (true, [([], []), ([0], [0]), ([], []), ([1, 2], [1, 2]), ([], []), ([3, 4], [3, 4]), ([5], [5]), ([], []), ([7], [7]), ([6, 8], [6, 8]), ([9, 9, 0, 1, 2, 3, 4, 5, 6, 7, 8, 9], [9])])
def proof_nodes.B7 : List Nat := [0, 1, 0, 7, 0, 31, 63, 0, 128, 511, 1023]
theorem proof_nodes.tab7 : rtab .any (opsOf Tryd.f39 7) = proof_nodes.T7 := by kernel_rfl
theorem proof_nodes.bits7 : waitsOk proof_nodes.T7.2 proof_nodes.B7 = true := by kernel_rfl
set_option maxHeartbeats 8000000 in
set_option maxRecDepth 100000 in
theorem proof_nodes.calls (k : Nat) (a0 : Int) (a1 : Int) (a2 : Int) (r1 : List (S46)) (r2 : Int) (r3 : Int) (r4 : Int) (r5 : Int) (w : World) (HG_ : Glob w) (h : proof_nodes.f k a0 a1 a2 = some (r1, r2, r3, r4, r5)) :
    Calls Tryd.prog 39 #[.int .u64 a0, .int .u64 a1, .int .u64 a2] w fun e w' => ∃ v0_ : Value, e = .returned (.agg #[v0_, .int .i64 r2, .int .i64 r3, .int .u64 r4, .int .u64 r5]) ∧ Kd.R k46 46 w' w.heap.size (fun _ => True) v0_ r1 ∧ Below w.heap.size w w' := by
  have hu52 := Tryd.underlying52
  have hu46 := Tryd.underlying46
  have HG := Aside0.mk HG_
  clear HG_
  have HB := Aside0.mk (Below.refl w.heap.size w)
  have H : (if 0 ≤ a1 then ((bits_Len64.f (Go.bits .xor .u64 a0 (shr .u64 a2 a1))).bind fun t158 => (if 0 ≤ (wrap64 (t158 - 1)) then ((compact_NewNodeID.f (IntKind.u64.wrap (a1 + (IntKind.u64.wrap (wrap64 (t158 - 1))))) (shr .u64 a0 (wrap64 (t158 - 1)))).bind fun bt159 => ((compact_NodeID_Coverage.f bt159.1 bt159.2).bind fun bt162 => ((compact_RangeSize.f 0 bt162.1).bind fun t164 => ((compact_RangeSize.f bt162.2 a2).bind fun t165 => ((compact_NewNodeID.f a1 a0).bind fun bt166 => (if 0 ≤ (wrap64 ((wrap64 ((wrap64 (1 + (wrap64 (t158 - 1)))) + t165)) + t164)) then (if (wrap64 ((wrap64 ((wrap64 (1 + (wrap64 (t158 - 1)))) + t165)) + t164) : Int).toNat ≤ 17592186044416 then ((some (([] : List (S46)) : List (S46))).bind fun y169 => ((some (([(⟨bt166.1, bt166.2⟩ : S46)] : List (S46)) : List (S46))).bind fun y172 => (if y169.length + y172.length < 8796093022208 then (proof_nodes.l0 k a2 bt162.1 bt162.2 t164 t165 (y169 ++ y172) bt159.1 bt159.2 bt166.1 bt166.2) else (none)))) else (none)) else (none))))))) else (none))) else (none)) = some (r1, r2, r3, r4, r5) := h
  clear h
  by_cases c4 : 0 ≤ a1
  · rw [if_pos c4] at H
    have c4b0 := eq_true c4
    have c4b1 : decide (0 ≤ a1) = true := decide_eq_true c4
    clear c4
    obtain ⟨ji5, hji5⟩ : ∃ j_ : Int, (shr .u64 a2 a1) = j_ := ⟨_, rfl⟩
    replace H : ((bits_Len64.f (Go.bits .xor .u64 a0 (ji5))).bind fun t158 => (if 0 ≤ (wrap64 (t158 - 1)) then ((compact_NewNodeID.f (IntKind.u64.wrap (a1 + (IntKind.u64.wrap (wrap64 (t158 - 1))))) (shr .u64 a0 (wrap64 (t158 - 1)))).bind fun bt159 => ((compact_NodeID_Coverage.f bt159.1 bt159.2).bind fun bt162 => ((compact_RangeSize.f 0 bt162.1).bind fun t164 => ((compact_RangeSize.f bt162.2 a2).bind fun t165 => ((compact_NewNodeID.f a1 a0).bind fun bt166 => (if 0 ≤ (wrap64 ((wrap64 ((wrap64 (1 + (wrap64 (t158 - 1)))) + t165)) + t164)) then (if (wrap64 ((wrap64 ((wrap64 (1 + (wrap64 (t158 - 1)))) + t165)) + t164) : Int).toNat ≤ 17592186044416 then ((some (([] : List (S46)) : List (S46))).bind fun y169 => ((some (([(⟨bt166.1, bt166.2⟩ : S46)] : List (S46)) : List (S46))).bind fun y172 => (if y169.length + y172.length < 8796093022208 then (proof_nodes.l0 k a2 bt162.1 bt162.2 t164 t165 (y169 ++ y172) bt159.1 bt159.2 bt166.1 bt166.2) else (none)))) else (none)) else (none))))))) else (none))) = some (r1, r2, r3, r4, r5) := by first | (rw [hji5] at H; exact H) | (simp only [hji5] at H ⊢; exact H)
    have hji5_ : (a2 / 2 ^ min a1.toNat 64) = ji5 := hji5
    have hji5z : a1 ≤ 64 → (a2 / 2 ^ a1.toNat) = ji5 := shr_small hji5
    replace H := Option.bind_eq_some_iff.mp H
    obtain ⟨t158, A60, H⟩ := H
    replace H : (if 0 ≤ (wrap64 (t158 - 1)) then ((compact_NewNodeID.f (IntKind.u64.wrap (a1 + (IntKind.u64.wrap (wrap64 (t158 - 1))))) (shr .u64 a0 (wrap64 (t158 - 1)))).bind fun bt159 => ((compact_NodeID_Coverage.f bt159.1 bt159.2).bind fun bt162 => ((compact_RangeSize.f 0 bt162.1).bind fun t164 => ((compact_RangeSize.f bt162.2 a2).bind fun t165 => ((compact_NewNodeID.f a1 a0).bind fun bt166 => (if 0 ≤ (wrap64 ((wrap64 ((wrap64 (1 + (wrap64 (t158 - 1)))) + t165)) + t164)) then (if (wrap64 ((wrap64 ((wrap64 (1 + (wrap64 (t158 - 1)))) + t165)) + t164) : Int).toNat ≤ 17592186044416 then ((some (([] : List (S46)) : List (S46))).bind fun y169 => ((some (([(⟨bt166.1, bt166.2⟩ : S46)] : List (S46)) : List (S46))).bind fun y172 => (if y169.length + y172.length < 8796093022208 then (proof_nodes.l0 k a2 bt162.1 bt162.2 t164 t165 (y169 ++ y172) bt159.1 bt159.2 bt166.1 bt166.2) else (none)))) else (none)) else (none))))))) else (none)) = some (r1, r2, r3, r4, r5) := H
    have A6 := Aside0.mk A60
    clear A60
    obtain ⟨ji7, hji7⟩ : ∃ j_ : Int, (wrap64 (t158 - 1)) = j_ := ⟨_, rfl⟩
    replace H : (if 0 ≤ (ji7) then ((compact_NewNodeID.f (IntKind.u64.wrap (a1 + (IntKind.u64.wrap (ji7)))) (shr .u64 a0 (ji7))).bind fun bt159 => ((compact_NodeID_Coverage.f bt159.1 bt159.2).bind fun bt162 => ((compact_RangeSize.f 0 bt162.1).bind fun t164 => ((compact_RangeSize.f bt162.2 a2).bind fun t165 => ((compact_NewNodeID.f a1 a0).bind fun bt166 => (if 0 ≤ (wrap64 ((wrap64 ((wrap64 (1 + (ji7))) + t165)) + t164)) then (if (wrap64 ((wrap64 ((wrap64 (1 + (ji7))) + t165)) + t164) : Int).toNat ≤ 17592186044416 then ((some (([] : List (S46)) : List (S46))).bind fun y169 => ((some (([(⟨bt166.1, bt166.2⟩ : S46)] : List (S46)) : List (S46))).bind fun y172 => (if y169.length + y172.length < 8796093022208 then (proof_nodes.l0 k a2 bt162.1 bt162.2 t164 t165 (y169 ++ y172) bt159.1 bt159.2 bt166.1 bt166.2) else (none)))) else (none)) else (none))))))) else (none)) = some (r1, r2, r3, r4, r5) := by first | (rw [hji7] at H; exact H) | (simp only [hji7] at H ⊢; exact H)
    (try rw [hji7] at A6)
    have hji7w : (IntKind.i64.wrap (t158 - 1)) = ji7 := (i64_w _).trans hji7
    by_cases c8 : 0 ≤ (ji7)
    · rw [if_pos c8] at H
      have c8b0 := eq_true c8
      have c8b1 : decide (0 ≤ (ji7)) = true := decide_eq_true c8
      clear c8
      obtain ⟨ji9, hji9⟩ : ∃ j_ : Int, (shr .u64 a0 (ji7)) = j_ := ⟨_, rfl⟩
      replace H : ((compact_NewNodeID.f (IntKind.u64.wrap (a1 + (IntKind.u64.wrap (ji7)))) (ji9)).bind fun bt159 => ((compact_NodeID_Coverage.f bt159.1 bt159.2).bind fun bt162 => ((compact_RangeSize.f 0 bt162.1).bind fun t164 => ((compact_RangeSize.f bt162.2 a2).bind fun t165 => ((compact_NewNodeID.f a1 a0).bind fun bt166 => (if 0 ≤ (wrap64 ((wrap64 ((wrap64 (1 + (ji7))) + t165)) + t164)) then (if (wrap64 ((wrap64 ((wrap64 (1 + (ji7))) + t165)) + t164) : Int).toNat ≤ 17592186044416 then ((some (([] : List (S46)) : List (S46))).bind fun y169 => ((some (([(⟨bt166.1, bt166.2⟩ : S46)] : List (S46)) : List (S46))).bind fun y172 => (if y169.length + y172.length < 8796093022208 then (proof_nodes.l0 k a2 bt162.1 bt162.2 t164 t165 (y169 ++ y172) bt159.1 bt159.2 bt166.1 bt166.2) else (none)))) else (none)) else (none))))))) = some (r1, r2, r3, r4, r5) := by first | (rw [hji9] at H; exact H) | (simp only [hji9] at H ⊢; exact H)
      (try rw [hji9] at A6)
      have hji9_ : (a0 / 2 ^ min (ji7).toNat 64) = ji9 := hji9
      have hji9z : (ji7) ≤ 64 → (a0 / 2 ^ (ji7).toNat) = ji9 := shr_small hji9
      replace H := Option.bind_eq_some_iff.mp H
      obtain ⟨⟨t159, t160⟩, A100, H⟩ := H
      replace H : ((compact_NodeID_Coverage.f t159 t160).bind fun bt162 => ((compact_RangeSize.f 0 bt162.1).bind fun t164 => ((compact_RangeSize.f bt162.2 a2).bind fun t165 => ((compact_NewNodeID.f a1 a0).bind fun bt166 => (if 0 ≤ (wrap64 ((wrap64 ((wrap64 (1 + (ji7))) + t165)) + t164)) then (if (wrap64 ((wrap64 ((wrap64 (1 + (ji7))) + t165)) + t164) : Int).toNat ≤ 17592186044416 then ((some (([] : List (S46)) : List (S46))).bind fun y169 => ((some (([(⟨bt166.1, bt166.2⟩ : S46)] : List (S46)) : List (S46))).bind fun y172 => (if y169.length + y172.length < 8796093022208 then (proof_nodes.l0 k a2 bt162.1 bt162.2 t164 t165 (y169 ++ y172) t159 t160 bt166.1 bt166.2) else (none)))) else (none)) else (none)))))) = some (r1, r2, r3, r4, r5) := H
      have A10 := Aside0.mk A100
      clear A100
      replace H := Option.bind_eq_some_iff.mp H
      obtain ⟨⟨t162, t163⟩, A110, H⟩ := H
      replace H : ((compact_RangeSize.f 0 t162).bind fun t164 => ((compact_RangeSize.f t163 a2).bind fun t165 => ((compact_NewNodeID.f a1 a0).bind fun bt166 => (if 0 ≤ (wrap64 ((wrap64 ((wrap64 (1 + (ji7))) + t165)) + t164)) then (if (wrap64 ((wrap64 ((wrap64 (1 + (ji7))) + t165)) + t164) : Int).toNat ≤ 17592186044416 then ((some (([] : List (S46)) : List (S46))).bind fun y169 => ((some (([(⟨bt166.1, bt166.2⟩ : S46)] : List (S46)) : List (S46))).bind fun y172 => (if y169.length + y172.length < 8796093022208 then (proof_nodes.l0 k a2 t162 t163 t164 t165 (y169 ++ y172) t159 t160 bt166.1 bt166.2) else (none)))) else (none)) else (none))))) = some (r1, r2, r3, r4, r5) := H
      have A11 := Aside0.mk A110
      clear A110
      replace H := Option.bind_eq_some_iff.mp H
      obtain ⟨t164, A120, H⟩ := H
      replace H : ((compact_RangeSize.f t163 a2).bind fun t165 => ((compact_NewNodeID.f a1 a0).bind fun bt166 => (if 0 ≤ (wrap64 ((wrap64 ((wrap64 (1 + (ji7))) + t165)) + t164)) then (if (wrap64 ((wrap64 ((wrap64 (1 + (ji7))) + t165)) + t164) : Int).toNat ≤ 17592186044416 then ((some (([] : List (S46)) : List (S46))).bind fun y169 => ((some (([(⟨bt166.1, bt166.2⟩ : S46)] : List (S46)) : List (S46))).bind fun y172 => (if y169.length + y172.length < 8796093022208 then (proof_nodes.l0 k a2 t162 t163 t164 t165 (y169 ++ y172) t159 t160 bt166.1 bt166.2) else (none)))) else (none)) else (none)))) = some (r1, r2, r3, r4, r5) := H
      have A12 := Aside0.mk A120
      clear A120
      replace H := Option.bind_eq_some_iff.mp H
      obtain ⟨t165, A130, H⟩ := H
      replace H : ((compact_NewNodeID.f a1 a0).bind fun bt166 => (if 0 ≤ (wrap64 ((wrap64 ((wrap64 (1 + (ji7))) + t165)) + t164)) then (if (wrap64 ((wrap64 ((wrap64 (1 + (ji7))) + t165)) + t164) : Int).toNat ≤ 17592186044416 then ((some (([] : List (S46)) : List (S46))).bind fun y169 => ((some (([(⟨bt166.1, bt166.2⟩ : S46)] : List (S46)) : List (S46))).bind fun y172 => (if y169.length + y172.length < 8796093022208 then (proof_nodes.l0 k a2 t162 t163 t164 t165 (y169 ++ y172) t159 t160 bt166.1 bt166.2) else (none)))) else (none)) else (none))) = some (r1, r2, r3, r4, r5) := H
      have A13 := Aside0.mk A130
      clear A130
      replace H := Option.bind_eq_some_iff.mp H
      obtain ⟨⟨t166, t167⟩, A140, H⟩ := H
      replace H : (if 0 ≤ (wrap64 ((wrap64 ((wrap64 (1 + (ji7))) + t165)) + t164)) then (if (wrap64 ((wrap64 ((wrap64 (1 + (ji7))) + t165)) + t164) : Int).toNat ≤ 17592186044416 then ((some (([] : List (S46)) : List (S46))).bind fun y169 => ((some (([(⟨t166, t167⟩ : S46)] : List (S46)) : List (S46))).bind fun y172 => (if y169.length + y172.length < 8796093022208 then (proof_nodes.l0 k a2 t162 t163 t164 t165 (y169 ++ y172) t159 t160 t166 t167) else (none)))) else (none)) else (none)) = some (r1, r2, r3, r4, r5) := H
      have A14 := Aside0.mk A140
      clear A140
      obtain ⟨ji15, hji15⟩ : ∃ j_ : Int, (wrap64 ((wrap64 ((wrap64 (1 + (ji7))) + t165)) + t164)) = j_ := ⟨_, rfl⟩
      replace H : (if 0 ≤ (ji15) then (if (ji15 : Int).toNat ≤ 17592186044416 then ((some (([] : List (S46)) : List (S46))).bind fun y169 => ((some (([(⟨t166, t167⟩ : S46)] : List (S46)) : List (S46))).bind fun y172 => (if y169.length + y172.length < 8796093022208 then (proof_nodes.l0 k a2 t162 t163 t164 t165 (y169 ++ y172) t159 t160 t166 t167) else (none)))) else (none)) else (none)) = some (r1, r2, r3, r4, r5) := by first | (rw [hji15] at H; exact H) | (simp only [hji15] at H ⊢; exact H)
      (try rw [hji15] at A6)
      (try rw [hji15] at A10)
      (try rw [hji15] at A11)
      (try rw [hji15] at A12)
      (try rw [hji15] at A13)
      (try rw [hji15] at A14)
      have hji15w : (IntKind.i64.wrap ((wrap64 ((wrap64 (1 + (ji7))) + t165)) + t164)) = ji15 := (i64_w _).trans hji15
      by_cases c16 : 0 ≤ (ji15)
      · rw [if_pos c16] at H
        have c16b0 := eq_true c16
        have c16b1 : decide (0 ≤ (ji15)) = true := decide_eq_true c16
        clear c16
        by_cases c17 : (ji15 : Int).toNat ≤ 17592186044416
        · rw [if_pos c17] at H
          have c17b0 := eq_true c17
          have c17b1 : decide ((ji15 : Int).toNat ≤ 17592186044416) = true := decide_eq_true c17
          clear c17
          obtain ⟨y169, hy169⟩ : ∃ y_ : List (S46), y_ = (([] : List (S46))) := ⟨_, rfl⟩
          replace H : ((some (([(⟨t166, t167⟩ : S46)] : List (S46)) : List (S46))).bind fun y172 => (if y169.length + y172.length < 8796093022208 then (proof_nodes.l0 k a2 t162 t163 t164 t165 (y169 ++ y172) t159 t160 t166 t167) else (none))) = some (r1, r2, r3, r4, r5) := by first | (rw [hy169]; with_reducible exact H) | (have H2_ := (Option.bind_some _ _).symm.trans H; rw [hy169]; with_reducible exact H2_) | (have H2_ := (Option.bind_some _ _).symm.trans H; with_reducible exact H2_) | with_reducible exact H | (rw [hy169]; exact H) | exact H
          have Ny169 := Aside0.mk hy169
          clear hy169
          obtain ⟨y172, hy172⟩ : ∃ y_ : List (S46), y_ = (([(⟨t166, t167⟩ : S46)] : List (S46))) := ⟨_, rfl⟩
          replace H : (if y169.length + y172.length < 8796093022208 then (proof_nodes.l0 k a2 t162 t163 t164 t165 (y169 ++ y172) t159 t160 t166 t167) else (none)) = some (r1, r2, r3, r4, r5) := by first | (rw [hy172]; with_reducible exact H) | (have H2_ := (Option.bind_some _ _).symm.trans H; rw [hy172]; with_reducible exact H2_) | (have H2_ := (Option.bind_some _ _).symm.trans H; with_reducible exact H2_) | with_reducible exact H | (rw [hy172]; exact H) | exact H
          have Ny172 := Aside0.mk hy172
          clear hy172
          by_cases c18 : y169.length + y172.length < 8796093022208
          · rw [if_pos c18] at H
            have LMc18 := Aside0.mk c18
            clear c18
            obtain ⟨y175, hy175⟩ : ∃ y_ : List (S46), y_ = (y169 ++ y172) := ⟨_, rfl⟩
            replace H : (proof_nodes.l0 k a2 t162 t163 t164 t165 y175 t159 t160 t166 t167) = some (r1, r2, r3, r4, r5) := by first | (rw [hy175]; with_reducible exact H) | (have H2_ := (Option.bind_some _ _).symm.trans H; rw [hy175]; with_reducible exact H2_) | (have H2_ := (Option.bind_some _ _).symm.trans H; with_reducible exact H2_) | with_reducible exact H | (rw [hy175]; exact H) | exact H
            have Ny175 := Aside0.mk hy175
            clear hy175
            have H' := Aside0.mk H
            clear H
            go_enter Tryd.func39, Tryd.ntmps39
            try go_wp2_with (first | ((with_reducible refine gate_dst (N := 6) rfl ?_); refine box_event ?hg (N := 6) ?hd (cs := #[.slice none 0 0, .int .i64 0, .int .i64 0, .int .u64 0, .int .u64 0]) (t := 52) ?hr ?_; (case hd => rfl); (case hg => rfl); (case hr => first | (go_simp; done) | (go_simp; rfl)); intro gb157 hg w19 hbox hb; have n0_ := Aside0.mk (below_step (by repeat (first | (with_reducible first | exact HB.out | apply below_alloc | apply pw_below_drewN | apply below_drew1) | exact HB.out)) hb); have n1_ := Aside0.mk (hbox); have n2_ := Aside0.mk ((by rw [hg]; exact (below_size (by repeat (first | (with_reducible first | exact HB.out | apply below_alloc | apply pw_below_drewN | apply below_drew1) | exact HB.out))) : w.heap.size ≤ gb157)); have n3_ := Aside0.mk ((by rw [hg]; exact (below_size (by repeat (first | (with_reducible first | exact HB.out | apply below_alloc | apply pw_below_drewN | apply below_drew1) | exact HB.out))) : w.heap.size ≤ gb157)); clear HB; have HB := n0_; have BK157 := n1_; have GW157 := n2_; have GE157 := n3_; clear n0_ n1_ n2_ n3_; clear hb hbox hg) | ((with_reducible refine gate_callee (f := 36) rfl ?_); refine goesL_ (some 22) rfl rfl Tryd.func36 (by kernel_rfl) rfl #[.int .u64 (Go.bits .xor .u64 a0 (ji5))] rfl (by (try simp only [List.map_toArray, List.map_cons, List.map_nil]); first | done | (simp only [hji5]; rfl) | rfl | (simp only [List.length_drop, List.length_take]; rfl)) ?_; (with_reducible refine (bits_Len64.calls (Go.bits .xor .u64 a0 (ji5)) t158 _ A6.out).mono ?_); rintro e w' ⟨rfl, ⟨nd, rfl⟩⟩; refine ⟨_, rfl, ?_⟩; (try (rw [drewN_self w19]; generalize hq_ : World.drewN w19 _ = w19; have n0_ : Aside0 (w19.heap[gb157]? = some (.cells #[.slice none 0 0, .int .i64 0, .int .i64 0, .int .u64 0, .int .u64 0] 52 (0, 0))) := ⟨by rw [← hq_]; exact (by (with_reducible repeat (first | refine blk_drewN ?_ _ | refine blk_drew ?_ | refine blk_alloc ?_ _)); exact BK157.out)⟩; have n1_ : Aside0 (Below w.heap.size w w19) := ⟨by rw [← hq_]; exact (by repeat (first | (with_reducible first | exact HB.out | apply below_alloc | apply pw_below_drewN | apply below_drew1 | refine below_set ?_ GE157.out) | exact HB.out))⟩; clear BK157 HB hq_; have BK157 := n0_; have HB := n1_; clear n0_ n1_))) | ((with_reducible refine gate_callee (f := 32) rfl ?_); refine goesL_ (some 31) rfl rfl Tryd.func32 (by kernel_rfl) rfl #[.int .u64 (IntKind.u64.wrap (a1 + (IntKind.u64.wrap (ji7)))), .int .u64 ji9] rfl (by (try simp only [List.map_toArray, List.map_cons, List.map_nil]); first | done | (simp only [hji7, hji9]; rfl) | rfl | (simp only [List.length_drop, List.length_take]; rfl)) ?_; (with_reducible refine (compact_NewNodeID.calls (IntKind.u64.wrap (a1 + (IntKind.u64.wrap (ji7)))) ji9 t159 t160 _ A10.out).mono ?_); rintro e w20 ⟨rfl, hb⟩; refine ⟨_, rfl, ?_⟩; have n0_ := Aside0.mk (blk_below (g := gb157) (o := .cells #[.slice none 0 0, .int .i64 0, .int .i64 0, .int .u64 0, .int .u64 0] 52 (0, 0)) (by (with_reducible repeat (first | refine blk_drewN ?_ _ | refine blk_drew ?_ | refine blk_alloc ?_ _)); exact BK157.out) hb); have n1_ := Aside0.mk (below_step (by repeat (first | (with_reducible first | exact HB.out | apply below_alloc | apply pw_below_drewN | apply below_drew1 | refine below_set ?_ GE157.out) | exact HB.out)) hb); clear BK157; clear HB; have BK157 := n0_; have HB := n1_; clear n0_ n1_; (try clear hb); (try clear hb2); (try clear hk); (try clear hi)) | ((with_reducible refine gate_dst (N := 8) rfl ?_); refine box_event ?hg (N := 8) ?hd (cs := #[.int .u64 0, .int .u64 0]) (t := 46) ?hr ?_; (case hd => rfl); (case hg => rfl); (case hr => first | (go_simp; done) | (go_simp; rfl)); intro gb161 hg w21 hbox hb; have n0_ := Aside0.mk (blk_below (g := gb157) (o := .cells #[.slice none 0 0, .int .i64 0, .int .i64 0, .int .u64 0, .int .u64 0] 52 (0, 0)) (by (with_reducible repeat (first | refine blk_drewN ?_ _ | refine blk_drew ?_ | refine blk_alloc ?_ _)); exact BK157.out) hb); have n1_ := Aside0.mk (below_step (by repeat (first | (with_reducible first | exact HB.out | apply below_alloc | apply pw_below_drewN | apply below_drew1 | refine below_set ?_ GE157.out) | exact HB.out)) hb); have n2_ := Aside0.mk (hbox); have n3_ := Aside0.mk ((by rw [hg]; exact (below_size (by repeat (first | (with_reducible first | exact HB.out | apply below_alloc | apply pw_below_drewN | apply below_drew1 | refine below_set ?_ GE157.out) | exact HB.out))) : w.heap.size ≤ gb161)); have n4_ := Aside0.mk ((by rw [hg]; exact (below_size (by repeat (first | (with_reducible first | exact HB.out | apply below_alloc | apply pw_below_drewN | apply below_drew1 | refine below_set ?_ GE157.out) | exact HB.out))) : w.heap.size ≤ gb161)); have n5_ := Aside0.mk ((by rw [hg]; exact Nat.ne_of_lt (blk_lt (g := gb157) (o := .cells #[.slice none 0 0, .int .i64 0, .int .i64 0, .int .u64 0, .int .u64 0] 52 (0, 0)) (by (with_reducible repeat (first | refine blk_drewN ?_ _ | refine blk_drew ?_ | refine blk_alloc ?_ _)); exact BK157.out)) : gb157 ≠ gb161)); have n6_ := Aside0.mk ((by rw [hg]; exact Nat.ne_of_gt (blk_lt (g := gb157) (o := .cells #[.slice none 0 0, .int .i64 0, .int .i64 0, .int .u64 0, .int .u64 0] 52 (0, 0)) (by (with_reducible repeat (first | refine blk_drewN ?_ _ | refine blk_drew ?_ | refine blk_alloc ?_ _)); exact BK157.out)) : gb161 ≠ gb157)); clear BK157; clear HB; have BK157 := n0_; have HB := n1_; have BK161 := n2_; have GW161 := n3_; have GE161 := n4_; have NB157_161 := n5_; have NB161_157 := n6_; clear n0_ n1_ n2_ n3_ n4_ n5_ n6_; clear hb hbox hg; have hnb22 := NB161_157.out; have hnc22 := NB157_161.out; have hcz23_0 : w21.cell? ⟨gb161, 0, none⟩ = some (.int .u64 0) := (blk_cell BK161.out 0).trans rfl; have hcz23_1 : w21.cell? ⟨gb161, 1, none⟩ = some (.int .u64 0) := (blk_cell BK161.out 1).trans rfl; have hfz23_0 := blk_frozen BK161.out 0; have hfz23_1 := blk_frozen BK161.out 1) | ((with_reducible refine gate_callee (f := 44) rfl ?_); refine goesL_ (some 34) rfl rfl Tryd.func44 (by kernel_rfl) rfl #[.agg #[.int .u64 t159, .int .u64 t160]] rfl (by (try simp only [List.map_toArray, List.map_cons, List.map_nil]); first | done | rfl | (simp only [List.length_drop, List.length_take]; rfl)) ?_; (with_reducible refine (compact_NodeID_Coverage.calls t159 t160 t162 t163 _ A11.out).mono ?_); rintro e w24 ⟨rfl, hb⟩; refine ⟨_, rfl, ?_⟩; have n0_ := Aside0.mk (blk_below (g := gb157) (o := .cells #[.slice none 0 0, .int .i64 0, .int .i64 0, .int .u64 0, .int .u64 0] 52 (0, 0)) (by (with_reducible repeat (first | refine blk_drewN ?_ _ | refine blk_drew ?_ | refine blk_alloc ?_ _)); refine blk_far ?_ NB157_161.out _; (with_reducible repeat (first | refine blk_drewN ?_ _ | refine blk_drew ?_ | refine blk_alloc ?_ _)); refine blk_far ?_ NB157_161.out _; (with_reducible repeat (first | refine blk_drewN ?_ _ | refine blk_drew ?_ | refine blk_alloc ?_ _)); exact BK157.out) hb); have n1_ := Aside0.mk (blk_below (g := gb161) (o := .cells #[.int .u64 t159, .int .u64 t160] 46 (0, 0)) (by (with_reducible repeat (first | refine blk_drewN ?_ _ | refine blk_drew ?_ | refine blk_alloc ?_ _)); refine blk_put (cs := #[.int .u64 t159, .int .u64 0]) ?_ 1 _ rfl; (with_reducible repeat (first | refine blk_drewN ?_ _ | refine blk_drew ?_ | refine blk_alloc ?_ _)); refine blk_put (cs := #[.int .u64 0, .int .u64 0]) ?_ 0 _ rfl; (with_reducible repeat (first | refine blk_drewN ?_ _ | refine blk_drew ?_ | refine blk_alloc ?_ _)); exact BK161.out) hb); have n2_ := Aside0.mk (below_step (by repeat (first | (with_reducible first | exact HB.out | apply below_alloc | apply pw_below_drewN | apply below_drew1 | refine below_set ?_ GE157.out | refine below_set ?_ GE161.out) | exact HB.out)) hb); clear BK157; clear BK161; clear HB; have BK157 := n0_; have BK161 := n1_; have HB := n2_; clear n0_ n1_ n2_; (try clear hb); (try clear hb2); (try clear hk); (try clear hi)) | ((with_reducible refine gate_callee (f := 21) rfl ?_); refine goesL_ (some 38) rfl rfl Tryd.func21 (by kernel_rfl) rfl #[.int .u64 0, .int .u64 t162] rfl (by (try simp only [List.map_toArray, List.map_cons, List.map_nil]); first | done | rfl | (simp only [List.length_drop, List.length_take]; rfl)) ?_; (with_reducible refine (compact_RangeSize.calls 0 t162 t164 _ A12.out).mono ?_); rintro e w' ⟨rfl, ⟨nd, rfl⟩⟩; refine ⟨_, rfl, ?_⟩; (try (rw [drewN_self w24]; generalize hq_ : World.drewN w24 _ = w24; have n0_ : Aside0 (w24.heap[gb157]? = some (.cells #[.slice none 0 0, .int .i64 0, .int .i64 0, .int .u64 0, .int .u64 0] 52 (0, 0))) := ⟨by rw [← hq_]; exact (by (with_reducible repeat (first | refine blk_drewN ?_ _ | refine blk_drew ?_ | refine blk_alloc ?_ _)); exact BK157.out)⟩; have n1_ : Aside0 (w24.heap[gb161]? = some (.cells #[.int .u64 t159, .int .u64 t160] 46 (0, 0))) := ⟨by rw [← hq_]; exact (by (with_reducible repeat (first | refine blk_drewN ?_ _ | refine blk_drew ?_ | refine blk_alloc ?_ _)); exact BK161.out)⟩; have n2_ : Aside0 (Below w.heap.size w w24) := ⟨by rw [← hq_]; exact (by repeat (first | (with_reducible first | exact HB.out | apply below_alloc | apply pw_below_drewN | apply below_drew1 | refine below_set ?_ GE157.out | refine below_set ?_ GE161.out) | exact HB.out))⟩; clear BK157 BK161 HB hq_; have BK157 := n0_; have BK161 := n1_; have HB := n2_; clear n0_ n1_ n2_))) | ((with_reducible refine gate_callee (f := 21) rfl ?_); refine goesL_ (some 41) rfl rfl Tryd.func21 (by kernel_rfl) rfl #[.int .u64 t163, .int .u64 a2] rfl (by (try simp only [List.map_toArray, List.map_cons, List.map_nil]); first | done | rfl | (simp only [List.length_drop, List.length_take]; rfl)) ?_; (with_reducible refine (compact_RangeSize.calls t163 a2 t165 _ A13.out).mono ?_); rintro e w' ⟨rfl, ⟨nd, rfl⟩⟩; refine ⟨_, rfl, ?_⟩; (try (rw [drewN_self w24]; generalize hq_ : World.drewN w24 _ = w24; have n0_ : Aside0 (w24.heap[gb157]? = some (.cells #[.slice none 0 0, .int .i64 0, .int .i64 0, .int .u64 0, .int .u64 0] 52 (0, 0))) := ⟨by rw [← hq_]; exact (by (with_reducible repeat (first | refine blk_drewN ?_ _ | refine blk_drew ?_ | refine blk_alloc ?_ _)); exact BK157.out)⟩; have n1_ : Aside0 (w24.heap[gb161]? = some (.cells #[.int .u64 t159, .int .u64 t160] 46 (0, 0))) := ⟨by rw [← hq_]; exact (by (with_reducible repeat (first | refine blk_drewN ?_ _ | refine blk_drew ?_ | refine blk_alloc ?_ _)); exact BK161.out)⟩; have n2_ : Aside0 (Below w.heap.size w w24) := ⟨by rw [← hq_]; exact (by repeat (first | (with_reducible first | exact HB.out | apply below_alloc | apply pw_below_drewN | apply below_drew1 | refine below_set ?_ GE157.out | refine below_set ?_ GE161.out) | exact HB.out))⟩; clear BK157 BK161 HB hq_; have BK157 := n0_; have BK161 := n1_; have HB := n2_; clear n0_ n1_ n2_))) | ((with_reducible refine gate_callee (f := 32) rfl ?_); refine goesL_ (some 44) rfl rfl Tryd.func32 (by kernel_rfl) rfl #[.int .u64 a1, .int .u64 a0] rfl (by (try simp only [List.map_toArray, List.map_cons, List.map_nil]); first | done | rfl | (simp only [List.length_drop, List.length_take]; rfl)) ?_; (with_reducible refine (compact_NewNodeID.calls a1 a0 t166 t167 _ A14.out).mono ?_); rintro e w25 ⟨rfl, hb⟩; refine ⟨_, rfl, ?_⟩; have n0_ := Aside0.mk (blk_below (g := gb157) (o := .cells #[.slice none 0 0, .int .i64 0, .int .i64 0, .int .u64 0, .int .u64 0] 52 (0, 0)) (by (with_reducible repeat (first | refine blk_drewN ?_ _ | refine blk_drew ?_ | refine blk_alloc ?_ _)); exact BK157.out) hb); have n1_ := Aside0.mk (blk_below (g := gb161) (o := .cells #[.int .u64 t159, .int .u64 t160] 46 (0, 0)) (by (with_reducible repeat (first | refine blk_drewN ?_ _ | refine blk_drew ?_ | refine blk_alloc ?_ _)); exact BK161.out) hb); have n2_ := Aside0.mk (below_step (by repeat (first | (with_reducible first | exact HB.out | apply below_alloc | apply pw_below_drewN | apply below_drew1 | refine below_set ?_ GE157.out | refine below_set ?_ GE161.out) | exact HB.out)) hb); clear BK157; clear BK161; clear HB; have BK157 := n0_; have BK161 := n1_; have HB := n2_; clear n0_ n1_ n2_; (try clear hb); (try clear hb2); (try clear hk); (try clear hi)) | ((with_reducible refine gate_dst (N := 13) rfl ?_); refine box_event ?hg (N := 13) ?hd (cs := #[.int .u64 0, .int .u64 0]) (t := 46) ?hr ?_; (case hd => rfl); (case hg => rfl); (case hr => first | (go_simp; done) | (go_simp; rfl)); intro gb168 hg w26 hbox hb; have n0_ := Aside0.mk (blk_below (g := gb157) (o := .cells #[.slice none 0 0, .int .i64 0, .int .i64 0, .int .u64 0, .int .u64 0] 52 (0, 0)) (by (with_reducible repeat (first | refine blk_drewN ?_ _ | refine blk_drew ?_ | refine blk_alloc ?_ _)); exact BK157.out) hb); have n1_ := Aside0.mk (blk_below (g := gb161) (o := .cells #[.int .u64 t159, .int .u64 t160] 46 (0, 0)) (by (with_reducible repeat (first | refine blk_drewN ?_ _ | refine blk_drew ?_ | refine blk_alloc ?_ _)); exact BK161.out) hb); have n2_ := Aside0.mk (below_step (by repeat (first | (with_reducible first | exact HB.out | apply below_alloc | apply pw_below_drewN | apply below_drew1 | refine below_set ?_ GE157.out | refine below_set ?_ GE161.out) | exact HB.out)) hb); have n3_ := Aside0.mk (hbox); have n4_ := Aside0.mk ((by rw [hg]; exact (below_size (by repeat (first | (with_reducible first | exact HB.out | apply below_alloc | apply pw_below_drewN | apply below_drew1 | refine below_set ?_ GE157.out | refine below_set ?_ GE161.out) | exact HB.out))) : w.heap.size ≤ gb168)); have n5_ := Aside0.mk ((by rw [hg]; exact (below_size (by repeat (first | (with_reducible first | exact HB.out | apply below_alloc | apply pw_below_drewN | apply below_drew1 | refine below_set ?_ GE157.out | refine below_set ?_ GE161.out) | exact HB.out))) : w.heap.size ≤ gb168)); have n6_ := Aside0.mk ((by rw [hg]; exact Nat.ne_of_lt (blk_lt (g := gb157) (o := .cells #[.slice none 0 0, .int .i64 0, .int .i64 0, .int .u64 0, .int .u64 0] 52 (0, 0)) (by (with_reducible repeat (first | refine blk_drewN ?_ _ | refine blk_drew ?_ | refine blk_alloc ?_ _)); exact BK157.out)) : gb157 ≠ gb168)); have n7_ := Aside0.mk ((by rw [hg]; exact Nat.ne_of_gt (blk_lt (g := gb157) (o := .cells #[.slice none 0 0, .int .i64 0, .int .i64 0, .int .u64 0, .int .u64 0] 52 (0, 0)) (by (with_reducible repeat (first | refine blk_drewN ?_ _ | refine blk_drew ?_ | refine blk_alloc ?_ _)); exact BK157.out)) : gb168 ≠ gb157)); have n8_ := Aside0.mk ((by rw [hg]; exact Nat.ne_of_lt (blk_lt (g := gb161) (o := .cells #[.int .u64 t159, .int .u64 t160] 46 (0, 0)) (by (with_reducible repeat (first | refine blk_drewN ?_ _ | refine blk_drew ?_ | refine blk_alloc ?_ _)); exact BK161.out)) : gb161 ≠ gb168)); have n9_ := Aside0.mk ((by rw [hg]; exact Nat.ne_of_gt (blk_lt (g := gb161) (o := .cells #[.int .u64 t159, .int .u64 t160] 46 (0, 0)) (by (with_reducible repeat (first | refine blk_drewN ?_ _ | refine blk_drew ?_ | refine blk_alloc ?_ _)); exact BK161.out)) : gb168 ≠ gb161)); clear BK157; clear BK161; clear HB; have BK157 := n0_; have BK161 := n1_; have HB := n2_; have BK168 := n3_; have GW168 := n4_; have GE168 := n5_; have NB157_168 := n6_; have NB168_157 := n7_; have NB161_168 := n8_; have NB168_161 := n9_; clear n0_ n1_ n2_ n3_ n4_ n5_ n6_ n7_ n8_ n9_; clear hb hbox hg; have hnb27 := NB168_157.out; have hnc27 := NB157_168.out; have hnb28 := NB168_161.out; have hnc28 := NB161_168.out; have hcz29_0 : w26.cell? ⟨gb168, 0, none⟩ = some (.int .u64 0) := (blk_cell BK168.out 0).trans rfl; have hcz29_1 : w26.cell? ⟨gb168, 1, none⟩ = some (.int .u64 0) := (blk_cell BK168.out 1).trans rfl; have hfz29_0 := blk_frozen BK168.out 0; have hfz29_1 := blk_frozen BK168.out 1))
            have n0_ : Aside0 (((w26.setCell ⟨gb168, 0, none⟩ (.int .u64 t166)).setCell ⟨gb168, 1, none⟩ (.int .u64 t167)).heap[gb157]? = some (.cells #[.slice none 0 0, .int .i64 0, .int .i64 0, .int .u64 0, .int .u64 0] 52 (0, 0))) := ⟨by (with_reducible repeat (first | refine blk_drewN ?_ _ | refine blk_drew ?_ | refine blk_alloc ?_ _)); refine blk_far ?_ NB157_168.out _; (with_reducible repeat (first | refine blk_drewN ?_ _ | refine blk_drew ?_ | refine blk_alloc ?_ _)); refine blk_far ?_ NB157_168.out _; (with_reducible repeat (first | refine blk_drewN ?_ _ | refine blk_drew ?_ | refine blk_alloc ?_ _)); exact BK157.out⟩
            have n1_ : Aside0 (((w26.setCell ⟨gb168, 0, none⟩ (.int .u64 t166)).setCell ⟨gb168, 1, none⟩ (.int .u64 t167)).heap[gb161]? = some (.cells #[.int .u64 t159, .int .u64 t160] 46 (0, 0))) := ⟨by (with_reducible repeat (first | refine blk_drewN ?_ _ | refine blk_drew ?_ | refine blk_alloc ?_ _)); refine blk_far ?_ NB161_168.out _; (with_reducible repeat (first | refine blk_drewN ?_ _ | refine blk_drew ?_ | refine blk_alloc ?_ _)); refine blk_far ?_ NB161_168.out _; (with_reducible repeat (first | refine blk_drewN ?_ _ | refine blk_drew ?_ | refine blk_alloc ?_ _)); exact BK161.out⟩
            have n2_ : Aside0 (((w26.setCell ⟨gb168, 0, none⟩ (.int .u64 t166)).setCell ⟨gb168, 1, none⟩ (.int .u64 t167)).heap[gb168]? = some (.cells #[.int .u64 t166, .int .u64 t167] 46 (0, 0))) := ⟨by (with_reducible repeat (first | refine blk_drewN ?_ _ | refine blk_drew ?_ | refine blk_alloc ?_ _)); refine blk_put (cs := #[.int .u64 t166, .int .u64 0]) ?_ 1 _ rfl; (with_reducible repeat (first | refine blk_drewN ?_ _ | refine blk_drew ?_ | refine blk_alloc ?_ _)); refine blk_put (cs := #[.int .u64 0, .int .u64 0]) ?_ 0 _ rfl; (with_reducible repeat (first | refine blk_drewN ?_ _ | refine blk_drew ?_ | refine blk_alloc ?_ _)); exact BK168.out⟩
            have n3_ : Aside0 (Below w.heap.size w ((w26.setCell ⟨gb168, 0, none⟩ (.int .u64 t166)).setCell ⟨gb168, 1, none⟩ (.int .u64 t167))) := ⟨by repeat (first | (with_reducible first | exact HB.out | apply below_alloc | apply pw_below_drewN | apply below_drew1 | refine below_set ?_ GE157.out | refine below_set ?_ GE161.out | refine below_set ?_ GE168.out) | exact HB.out)⟩
            (try clear BK157)
            (try clear BK161)
            (try clear BK168)
            (try clear HB)
            generalize ((w26.setCell ⟨gb168, 0, none⟩ (.int .u64 t166)).setCell ⟨gb168, 1, none⟩ (.int .u64 t167)) = w30 at n0_ n1_ n2_ n3_ ⊢
            have BK157 := n0_
            have BK161 := n1_
            have BK168 := n2_
            have HB := n3_
            clear n0_ n1_ n2_ n3_
            have n0_ := Aside0.mk (blk_drew BK157.out)
            have n1_ := Aside0.mk (blk_drew BK161.out)
            have n2_ := Aside0.mk (blk_drew BK168.out)
            have n3_ := Aside0.mk (below_drew1 HB.out)
            clear BK157
            clear BK161
            clear BK168
            clear HB
            have BK157 := n0_
            have BK161 := n1_
            have BK168 := n2_
            have HB := n3_
            clear n0_ n1_ n2_ n3_
            refine start_ (n := 11) (S := fun w' => w'.cell? ⟨gb168, 0, none⟩ = some (.int .u64 t166) ∧ w'.cell? ⟨gb168, 1, none⟩ = some (.int .u64 t167)) (ds := []) #[false, false, false, false, false, false, false, false, false, false, false] (by kernel_rfl) rfl rfl ⟨(blk_cell BK168.out 0).trans rfl, (blk_cell BK168.out 1).trans rfl⟩ (fun hHeld => ?_); refine with_tabW proof_nodes.tab7 proof_nodes.bits7 (fun HT_ HW_ => ?_)
            generalize w30.drew = w31 at BK157 BK161 BK168 HB hHeld ⊢
            refine pure_ (i := 0) (N := some 45) (v := ?_) (a' := ?_) #[true, false, false, false, false, false, false, false, false, false, false] rfl rfl (any_of HT_.out (by kernel_rfl)) (fun _ _ _ h => h) (Or.inl ⟨by rfl, ?_⟩) ?_ ?_
            rotate_left
            · intro w'
              go_simp
              with_reducible rfl
            rotate_left
            · simp only [Act.put, List.setIfInBounds_toArray, List.set_cons_zero, List.set_cons_succ, i64_w, i32_w]
              rfl
            refine pure_ (i := 1) (N := some 46) (v := ?_) (a' := ?_) #[true, true, false, false, false, false, false, false, false, false, false] rfl rfl (any_of HT_.out (by kernel_rfl)) (fun _ _ _ h => h) (Or.inl ⟨by rfl, ?_⟩) ?_ ?_
            rotate_left
            · intro w'
              go_simp
              with_reducible rfl
            rotate_left
            · simp only [Act.put, List.setIfInBounds_toArray, List.set_cons_zero, List.set_cons_succ, i64_w, i32_w]
              rfl
            refine pure_ (i := 2) (N := some 47) (v := ?_) (a' := ?_) #[true, true, true, false, false, false, false, false, false, false, false] rfl rfl (any_of HT_.out (by kernel_rfl)) (fun _ _ _ h => h) (Or.inl ⟨by rfl, ?_⟩) ?_ ?_
            rotate_left
            · intro w'
              go_simp
              with_reducible rfl
            rotate_left
            · simp only [Act.put, List.setIfInBounds_toArray, List.set_cons_zero, List.set_cons_succ, i64_w, i32_w]
              rfl
            refine pure_ (i := 3) (N := some 48) (v := ?_) (a' := ?_) #[true, true, true, true, false, false, false, false, false, false, false] rfl rfl (any_of HT_.out (by kernel_rfl)) (fun _ _ _ h => h) (Or.inl ⟨by rfl, ?_⟩) ?_ ?_
            rotate_left
            · intro w'
              go_simp
              with_reducible rfl
            rotate_left
            · simp only [Act.put, List.setIfInBounds_toArray, List.set_cons_zero, List.set_cons_succ, i64_w, i32_w]
              rfl
            refine pure_ (i := 4) (N := some 49) (v := ?_) (a' := ?_) #[true, true, true, true, true, false, false, false, false, false, false] rfl rfl (any_of HT_.out (by kernel_rfl)) (fun _ _ _ h => h) (Or.inl ⟨by rfl, ?_⟩) ?_ ?_
            rotate_left
            · intro w'
              go_simp
              with_reducible rfl
            rotate_left
            · simp only [Act.put, List.setIfInBounds_toArray, List.set_cons_zero, List.set_cons_succ, i64_w, i32_w]
              rfl
            refine pure_ (i := 5) (N := some 50) (v := ?_) (a' := ?_) #[true, true, true, true, true, true, false, false, false, false, false] rfl rfl (any_of HT_.out (by kernel_rfl)) (fun _ _ _ h => h) (Or.inl ⟨by rfl, ?_⟩) ?_ ?_
            rotate_left
            · intro w'
              go_simp
              with_reducible rfl
            rotate_left
            · simp only [Act.put, List.setIfInBounds_toArray, List.set_cons_zero, List.set_cons_succ, i64_w, i32_w]
              rfl
            refine take_ (i := 7) (N := some 52) (v := ?_) (a' := ?_) #[true, true, true, true, true, true, false, true, false, false, false] rfl rfl (take_ofW HT_.out HW_.out (by kernel_rfl)) (fun _ _ _ h => h) (Or.inl ⟨by rfl, ?_⟩) hHeld ?_ ?_
            rotate_left
            · rintro w' ⟨s0, s1⟩
              go_simp
              with_reducible rfl
            rotate_left
            · simp only [Act.put, List.setIfInBounds_toArray, List.set_cons_zero, List.set_cons_succ, i64_w, i32_w]
              rfl
            refine join_ (σ := Value × Value) 2 #[true, true, true, true, true, true, true, true, true, false, false] (fun s_ => [(51, s_.1), (53, s_.2)]) (fun s_ w' => (w'.cell? ⟨gb168, 0, none⟩ = some (.int .u64 t166) ∧ w'.cell? ⟨gb168, 1, none⟩ = some (.int .u64 t167)) ∧ (Kd.R k46 46 w' w.heap.size (fun k_ => some k_ ≠ (s_.2 : Value).ownBlock ∧ k_ ≠ gb161 ∧ k_ ≠ gb168) s_.1 y169) ∧ (Kd.R k46 46 w' w.heap.size (fun k_ => some k_ ≠ (s_.1 : Value).ownBlock ∧ k_ ≠ gb161 ∧ k_ ≠ gb168) s_.2 y172) ∧ (w'.heap[gb157]? = some (.cells #[.slice none 0 0, .int .i64 0, .int .i64 0, .int .u64 0, .int .u64 0] 52 (0, 0))) ∧ (w'.heap[gb161]? = some (.cells #[.int .u64 t159, .int .u64 t160] 46 (0, 0))) ∧ (w'.heap[gb168]? = some (.cells #[.int .u64 t166, .int .u64 t167] 46 (0, 0))) ∧ (Below w.heap.size w w')) ?_ ?_
            rotate_left
            · intro hCont
              refine two_ (i := 6) (j := 8) (Ni := some 51) (Nj := some 53) #[true, true, true, true, true, true, true, true, false, false, false] #[true, true, true, true, true, true, false, true, true, false, false] rfl rfl rfl rfl (two_of HT_.out (by kernel_rfl)) (by decide) (by decide) (fun K hK => ?_) (fun K hK => ?_)
              · skip
                refine Kd.R_make0_step k46 _ 46 (by rfl) (N := 51) rfl 45 _ _ rfl ji15 rfl rfl Tryd.underlying45 (.agg #[(.int .u64 0), (.int .u64 0)]) 16 info46 (by decide) (ok := fun _ => True) trivial (of_decide_eq_true (by first | (with_reducible assumption) | assumption)) (Nat.le_trans (Nat.mul_le_mul_right _ (of_decide_eq_true (by first | (with_reducible assumption) | assumption) : ji15.toNat ≤ 17592186044416)) (by omega)) (Below.refl _ _) (Nat.le_refl _) ?_
                intro v170 w32 ho33 hb hg_ hnew_
                clear hg_ hnew_
                (first | rw [← Ny169.out] at ho33 | (simp only [Int.reduceToNat] at ho33; rw [← Ny169.out] at ho33))
                have n0_ := Aside0.mk (Kd.R_lower (Kd.R_newB (Kd.R_newB ho33 (g := gb161) (o := .cells #[.int .u64 t159, .int .u64 t160] 46 (0, 0)) (by (with_reducible repeat (first | refine blk_drewN ?_ _ | refine blk_drew ?_ | refine blk_alloc ?_ _)); exact BK161.out)) (g := gb168) (o := .cells #[.int .u64 t166, .int .u64 t167] 46 (0, 0)) (by (with_reducible repeat (first | refine blk_drewN ?_ _ | refine blk_drew ?_ | refine blk_alloc ?_ _)); exact BK168.out)) (below_size (by repeat (first | (with_reducible first | exact HB.out | apply below_alloc | apply pw_below_drewN | apply below_drew1 | refine below_set ?_ GE157.out | refine below_set ?_ GE161.out | refine below_set ?_ GE168.out) | exact HB.out))))
                have n1_ := Aside0.mk (blk_below (g := gb157) (o := .cells #[.slice none 0 0, .int .i64 0, .int .i64 0, .int .u64 0, .int .u64 0] 52 (0, 0)) (by (with_reducible repeat (first | refine blk_drewN ?_ _ | refine blk_drew ?_ | refine blk_alloc ?_ _)); exact BK157.out) hb)
                have n2_ := Aside0.mk (blk_below (g := gb161) (o := .cells #[.int .u64 t159, .int .u64 t160] 46 (0, 0)) (by (with_reducible repeat (first | refine blk_drewN ?_ _ | refine blk_drew ?_ | refine blk_alloc ?_ _)); exact BK161.out) hb)
                have n3_ := Aside0.mk (blk_below (g := gb168) (o := .cells #[.int .u64 t166, .int .u64 t167] 46 (0, 0)) (by (with_reducible repeat (first | refine blk_drewN ?_ _ | refine blk_drew ?_ | refine blk_alloc ?_ _)); exact BK168.out) hb)
                have n4_ := Aside0.mk (below_step (by repeat (first | (with_reducible first | exact HB.out | apply below_alloc | apply pw_below_drewN | apply below_drew1 | refine below_set ?_ GE157.out | refine below_set ?_ GE161.out | refine below_set ?_ GE168.out) | exact HB.out)) hb)
                clear BK157
                clear BK161
                clear BK168
                clear HB
                have HO171 := n0_
                have BK157 := n1_
                have BK161 := n2_
                have BK168 := n3_
                have HB := n4_
                clear n0_ n1_ n2_ n3_ n4_
                clear hb ho33
                refine hK.out _ _ ⟨(blk_cell BK168.out 0).trans rfl, (blk_cell BK168.out 1).trans rfl⟩ (fun hHeld => ?_)
                clear hK K
                refine norm_ (a' := ?_) ?_ ?_
                rotate_left
                · show Act.put _ (some 51) _ = _
                  simp only [Act.put, List.setIfInBounds_toArray, List.set_cons_zero, List.set_cons_succ, i64_w, i32_w]
                  rfl
                refine one_ (i := 8) (N := some 53) #[true, true, true, true, true, true, true, true, true, false, false] rfl rfl (one_of HT_.out (by kernel_rfl)) (by decide) (fun K hK => ?_)
                refine Kd.R_lit_step k46 _ 46 ?hg (N := 53) ?hd (xs := ([(⟨t166, t167⟩ : S46)] : List (S46))) (inner := [.int .u64 t166, .int .u64 t167]) (ok := fun _ => True) (okp := fun _ => True) ?hr ?hp (fun _ hk => hk) trivial (Below.refl _ _) (Nat.le_refl _) (by simp) ?_; (case hd => rfl); (case hg => rfl); (case hr => first | (go_simp; done) | (go_simp; rfl)); (case hp => exact (Reps.c2 (show Kd.M k46 _ _ _ (⟨t166, t167⟩ : S46) [.int .u64 t166, .int .u64 t167] from (k46_mkM _ _ _ (⟨t166, t167⟩ : S46) )) (Reps.none _ _)))
                intro v173 w34 ho35 hb hg_ hnew_
                clear hg_ hnew_
                (first | rw [← Ny172.out] at ho35 | (simp only [Int.reduceToNat] at ho35; rw [← Ny172.out] at ho35))
                have n0_ := Aside0.mk (Kd.R_elder' (by (with_reducible repeat (first | apply Kd.R_alloc | apply Kd.R_drewN | apply Kd.R_drew)); exact HO171.out) (Kd.R_base ho35) hb)
                have n1_ := Aside0.mk (Kd.R_lower (Kd.R_newB (Kd.R_newB (Kd.R_new' ho35 (Kd.R_lt (by (with_reducible repeat (first | apply Kd.R_alloc | apply Kd.R_drewN | apply Kd.R_drew)); exact HO171.out))) (g := gb161) (o := .cells #[.int .u64 t159, .int .u64 t160] 46 (0, 0)) (by (with_reducible repeat (first | refine blk_drewN ?_ _ | refine blk_drew ?_ | refine blk_alloc ?_ _)); exact BK161.out)) (g := gb168) (o := .cells #[.int .u64 t166, .int .u64 t167] 46 (0, 0)) (by (with_reducible repeat (first | refine blk_drewN ?_ _ | refine blk_drew ?_ | refine blk_alloc ?_ _)); exact BK168.out)) (below_size (by repeat (first | (with_reducible first | exact HB.out | apply below_alloc | apply pw_below_drewN | apply below_drew1 | refine below_set ?_ GE157.out | refine below_set ?_ GE161.out | refine below_set ?_ GE168.out) | exact HB.out))))
                have n2_ := Aside0.mk (blk_below (g := gb157) (o := .cells #[.slice none 0 0, .int .i64 0, .int .i64 0, .int .u64 0, .int .u64 0] 52 (0, 0)) (by (with_reducible repeat (first | refine blk_drewN ?_ _ | refine blk_drew ?_ | refine blk_alloc ?_ _)); exact BK157.out) hb)
                have n3_ := Aside0.mk (blk_below (g := gb161) (o := .cells #[.int .u64 t159, .int .u64 t160] 46 (0, 0)) (by (with_reducible repeat (first | refine blk_drewN ?_ _ | refine blk_drew ?_ | refine blk_alloc ?_ _)); exact BK161.out) hb)
                have n4_ := Aside0.mk (blk_below (g := gb168) (o := .cells #[.int .u64 t166, .int .u64 t167] 46 (0, 0)) (by (with_reducible repeat (first | refine blk_drewN ?_ _ | refine blk_drew ?_ | refine blk_alloc ?_ _)); exact BK168.out) hb)
                have n5_ := Aside0.mk (below_step (by repeat (first | (with_reducible first | exact HB.out | apply below_alloc | apply pw_below_drewN | apply below_drew1 | refine below_set ?_ GE157.out | refine below_set ?_ GE161.out | refine below_set ?_ GE168.out) | exact HB.out)) hb)
                clear HO171
                clear BK157
                clear BK161
                clear BK168
                clear HB
                have HO171 := n0_
                have HO174 := n1_
                have BK157 := n2_
                have BK161 := n3_
                have BK168 := n4_
                have HB := n5_
                clear n0_ n1_ n2_ n3_ n4_ n5_
                clear hb ho35
                refine hK.out _ _ ⟨(blk_cell BK168.out 0).trans rfl, (blk_cell BK168.out 1).trans rfl⟩ (fun hHeld => ?_)
                clear hK K
                refine norm_ (a' := ?_) ?_ ?_
                rotate_left
                · show Act.put _ (some 53) _ = _
                  simp only [Act.put, List.setIfInBounds_toArray, List.set_cons_zero, List.set_cons_succ, i64_w, i32_w]
                  rfl
                exact norm_ (by simp only [putAll, Act.put, List.setIfInBounds_toArray, List.set_cons_zero, List.set_cons_succ]) (hCont (v170, v173) _ ⟨hHeld, (by (with_reducible repeat (first | apply Kd.R_alloc | apply Kd.R_drewN | apply Kd.R_drew)); exact Kd.R_mono HO171.out (fun _ hk => ⟨hk.2, ⟨hk.1.1.2, hk.1.2⟩⟩)), (by (with_reducible repeat (first | apply Kd.R_alloc | apply Kd.R_drewN | apply Kd.R_drew)); exact Kd.R_mono HO174.out (fun _ hk => ⟨hk.1.1.2, ⟨hk.1.2, hk.2⟩⟩)), (by (with_reducible repeat (first | refine blk_drewN ?_ _ | refine blk_drew ?_ | refine blk_alloc ?_ _)); exact BK157.out), (by (with_reducible repeat (first | refine blk_drewN ?_ _ | refine blk_drew ?_ | refine blk_alloc ?_ _)); exact BK161.out), (by (with_reducible repeat (first | refine blk_drewN ?_ _ | refine blk_drew ?_ | refine blk_alloc ?_ _)); exact BK168.out), (by repeat (first | (with_reducible first | exact HB.out | apply below_alloc | apply pw_below_drewN | apply below_drew1 | refine below_set ?_ GE157.out | refine below_set ?_ GE161.out | refine below_set ?_ GE168.out) | exact HB.out))⟩)
              · skip
                refine Kd.R_lit_step k46 _ 46 ?hg (N := 53) ?hd (xs := ([(⟨t166, t167⟩ : S46)] : List (S46))) (inner := [.int .u64 t166, .int .u64 t167]) (ok := fun _ => True) (okp := fun _ => True) ?hr ?hp (fun _ hk => hk) trivial (Below.refl _ _) (Nat.le_refl _) (by simp) ?_; (case hd => rfl); (case hg => rfl); (case hr => first | (go_simp; done) | (go_simp; rfl)); (case hp => exact (Reps.c2 (show Kd.M k46 _ _ _ (⟨t166, t167⟩ : S46) [.int .u64 t166, .int .u64 t167] from (k46_mkM _ _ _ (⟨t166, t167⟩ : S46) )) (Reps.none _ _)))
                intro v173 w32 ho33 hb hg_ hnew_
                clear hg_ hnew_
                (first | rw [← Ny172.out] at ho33 | (simp only [Int.reduceToNat] at ho33; rw [← Ny172.out] at ho33))
                have n0_ := Aside0.mk (Kd.R_lower (Kd.R_newB (Kd.R_newB ho33 (g := gb161) (o := .cells #[.int .u64 t159, .int .u64 t160] 46 (0, 0)) (by (with_reducible repeat (first | refine blk_drewN ?_ _ | refine blk_drew ?_ | refine blk_alloc ?_ _)); exact BK161.out)) (g := gb168) (o := .cells #[.int .u64 t166, .int .u64 t167] 46 (0, 0)) (by (with_reducible repeat (first | refine blk_drewN ?_ _ | refine blk_drew ?_ | refine blk_alloc ?_ _)); exact BK168.out)) (below_size (by repeat (first | (with_reducible first | exact HB.out | apply below_alloc | apply pw_below_drewN | apply below_drew1 | refine below_set ?_ GE157.out | refine below_set ?_ GE161.out | refine below_set ?_ GE168.out) | exact HB.out))))
                have n1_ := Aside0.mk (blk_below (g := gb157) (o := .cells #[.slice none 0 0, .int .i64 0, .int .i64 0, .int .u64 0, .int .u64 0] 52 (0, 0)) (by (with_reducible repeat (first | refine blk_drewN ?_ _ | refine blk_drew ?_ | refine blk_alloc ?_ _)); exact BK157.out) hb)
                have n2_ := Aside0.mk (blk_below (g := gb161) (o := .cells #[.int .u64 t159, .int .u64 t160] 46 (0, 0)) (by (with_reducible repeat (first | refine blk_drewN ?_ _ | refine blk_drew ?_ | refine blk_alloc ?_ _)); exact BK161.out) hb)
                have n3_ := Aside0.mk (blk_below (g := gb168) (o := .cells #[.int .u64 t166, .int .u64 t167] 46 (0, 0)) (by (with_reducible repeat (first | refine blk_drewN ?_ _ | refine blk_drew ?_ | refine blk_alloc ?_ _)); exact BK168.out) hb)
                have n4_ := Aside0.mk (below_step (by repeat (first | (with_reducible first | exact HB.out | apply below_alloc | apply pw_below_drewN | apply below_drew1 | refine below_set ?_ GE157.out | refine below_set ?_ GE161.out | refine below_set ?_ GE168.out) | exact HB.out)) hb)
                clear BK157
                clear BK161
                clear BK168
                clear HB
                have HO174 := n0_
                have BK157 := n1_
                have BK161 := n2_
                have BK168 := n3_
                have HB := n4_
                clear n0_ n1_ n2_ n3_ n4_
                clear hb ho33
                refine hK.out _ _ ⟨(blk_cell BK168.out 0).trans rfl, (blk_cell BK168.out 1).trans rfl⟩ (fun hHeld => ?_)
                clear hK K
                refine norm_ (a' := ?_) ?_ ?_
                rotate_left
                · show Act.put _ (some 53) _ = _
                  simp only [Act.put, List.setIfInBounds_toArray, List.set_cons_zero, List.set_cons_succ, i64_w, i32_w]
                  rfl
                refine one_ (i := 6) (N := some 51) #[true, true, true, true, true, true, true, true, true, false, false] rfl rfl (one_of HT_.out (by kernel_rfl)) (by decide) (fun K hK => ?_)
                refine Kd.R_make0_step k46 _ 46 (by rfl) (N := 51) rfl 45 _ _ rfl ji15 rfl rfl Tryd.underlying45 (.agg #[(.int .u64 0), (.int .u64 0)]) 16 info46 (by decide) (ok := fun _ => True) trivial (of_decide_eq_true (by first | (with_reducible assumption) | assumption)) (Nat.le_trans (Nat.mul_le_mul_right _ (of_decide_eq_true (by first | (with_reducible assumption) | assumption) : ji15.toNat ≤ 17592186044416)) (by omega)) (Below.refl _ _) (Nat.le_refl _) ?_
                intro v170 w34 ho35 hb hg_ hnew_
                clear hg_ hnew_
                (first | rw [← Ny169.out] at ho35 | (simp only [Int.reduceToNat] at ho35; rw [← Ny169.out] at ho35))
                have n0_ := Aside0.mk (Kd.R_elder' (by (with_reducible repeat (first | apply Kd.R_alloc | apply Kd.R_drewN | apply Kd.R_drew)); exact HO174.out) (Kd.R_base ho35) hb)
                have n1_ := Aside0.mk (Kd.R_lower (Kd.R_newB (Kd.R_newB (Kd.R_new' ho35 (Kd.R_lt (by (with_reducible repeat (first | apply Kd.R_alloc | apply Kd.R_drewN | apply Kd.R_drew)); exact HO174.out))) (g := gb161) (o := .cells #[.int .u64 t159, .int .u64 t160] 46 (0, 0)) (by (with_reducible repeat (first | refine blk_drewN ?_ _ | refine blk_drew ?_ | refine blk_alloc ?_ _)); exact BK161.out)) (g := gb168) (o := .cells #[.int .u64 t166, .int .u64 t167] 46 (0, 0)) (by (with_reducible repeat (first | refine blk_drewN ?_ _ | refine blk_drew ?_ | refine blk_alloc ?_ _)); exact BK168.out)) (below_size (by repeat (first | (with_reducible first | exact HB.out | apply below_alloc | apply pw_below_drewN | apply below_drew1 | refine below_set ?_ GE157.out | refine below_set ?_ GE161.out | refine below_set ?_ GE168.out) | exact HB.out))))
                have n2_ := Aside0.mk (blk_below (g := gb157) (o := .cells #[.slice none 0 0, .int .i64 0, .int .i64 0, .int .u64 0, .int .u64 0] 52 (0, 0)) (by (with_reducible repeat (first | refine blk_drewN ?_ _ | refine blk_drew ?_ | refine blk_alloc ?_ _)); exact BK157.out) hb)
                have n3_ := Aside0.mk (blk_below (g := gb161) (o := .cells #[.int .u64 t159, .int .u64 t160] 46 (0, 0)) (by (with_reducible repeat (first | refine blk_drewN ?_ _ | refine blk_drew ?_ | refine blk_alloc ?_ _)); exact BK161.out) hb)
                have n4_ := Aside0.mk (blk_below (g := gb168) (o := .cells #[.int .u64 t166, .int .u64 t167] 46 (0, 0)) (by (with_reducible repeat (first | refine blk_drewN ?_ _ | refine blk_drew ?_ | refine blk_alloc ?_ _)); exact BK168.out) hb)
                have n5_ := Aside0.mk (below_step (by repeat (first | (with_reducible first | exact HB.out | apply below_alloc | apply pw_below_drewN | apply below_drew1 | refine below_set ?_ GE157.out | refine below_set ?_ GE161.out | refine below_set ?_ GE168.out) | exact HB.out)) hb)
                clear HO174
                clear BK157
                clear BK161
                clear BK168
                clear HB
                have HO174 := n0_
                have HO171 := n1_
                have BK157 := n2_
                have BK161 := n3_
                have BK168 := n4_
                have HB := n5_
                clear n0_ n1_ n2_ n3_ n4_ n5_
                clear hb ho35
                refine hK.out _ _ ⟨(blk_cell BK168.out 0).trans rfl, (blk_cell BK168.out 1).trans rfl⟩ (fun hHeld => ?_)
                clear hK K
                refine norm_ (a' := ?_) ?_ ?_
                rotate_left
                · show Act.put _ (some 51) _ = _
                  simp only [Act.put, List.setIfInBounds_toArray, List.set_cons_zero, List.set_cons_succ, i64_w, i32_w]
                  rfl
                exact norm_ (by simp only [putAll, Act.put, List.setIfInBounds_toArray, List.set_cons_zero, List.set_cons_succ]) (hCont (v170, v173) _ ⟨hHeld, (by (with_reducible repeat (first | apply Kd.R_alloc | apply Kd.R_drewN | apply Kd.R_drew)); exact Kd.R_mono HO171.out (fun _ hk => ⟨hk.1.1.2, ⟨hk.1.2, hk.2⟩⟩)), (by (with_reducible repeat (first | apply Kd.R_alloc | apply Kd.R_drewN | apply Kd.R_drew)); exact Kd.R_mono HO174.out (fun _ hk => ⟨hk.2, ⟨hk.1.1.2, hk.1.2⟩⟩)), (by (with_reducible repeat (first | refine blk_drewN ?_ _ | refine blk_drew ?_ | refine blk_alloc ?_ _)); exact BK157.out), (by (with_reducible repeat (first | refine blk_drewN ?_ _ | refine blk_drew ?_ | refine blk_alloc ?_ _)); exact BK161.out), (by (with_reducible repeat (first | refine blk_drewN ?_ _ | refine blk_drew ?_ | refine blk_alloc ?_ _)); exact BK168.out), (by repeat (first | (with_reducible first | exact HB.out | apply below_alloc | apply pw_below_drewN | apply below_drew1 | refine below_set ?_ GE157.out | refine below_set ?_ GE161.out | refine below_set ?_ GE168.out) | exact HB.out))⟩)
            rintro ⟨v170, v173⟩ w36 ⟨hS_, h0_, h1_, h2_, h3_, h4_, h5_⟩
            have n0_ : Aside0 (Kd.R k46 46 w36 w.heap.size (fun k_ => some k_ ≠ (v173 : Value).ownBlock ∧ k_ ≠ gb161 ∧ k_ ≠ gb168) v170 y169) := ⟨h0_⟩
            have n1_ : Aside0 (Kd.R k46 46 w36 w.heap.size (fun k_ => some k_ ≠ (v170 : Value).ownBlock ∧ k_ ≠ gb161 ∧ k_ ≠ gb168) v173 y172) := ⟨h1_⟩
            have n2_ : Aside0 (w36.heap[gb157]? = some (.cells #[.slice none 0 0, .int .i64 0, .int .i64 0, .int .u64 0, .int .u64 0] 52 (0, 0))) := ⟨h2_⟩
            have n3_ : Aside0 (w36.heap[gb161]? = some (.cells #[.int .u64 t159, .int .u64 t160] 46 (0, 0))) := ⟨h3_⟩
            have n4_ : Aside0 (w36.heap[gb168]? = some (.cells #[.int .u64 t166, .int .u64 t167] 46 (0, 0))) := ⟨h4_⟩
            have n5_ : Aside0 (Below w.heap.size w w36) := ⟨h5_⟩
            clear BK157
            clear BK161
            clear BK168
            clear HB
            clear h0_ h1_ h2_ h3_ h4_ h5_
            have HO171 := n0_
            have HO174 := n1_
            have BK157 := n2_
            have BK161 := n3_
            have BK168 := n4_
            have HB := n5_
            clear n0_ n1_ n2_ n3_ n4_ n5_
            have hHeld : w36.cell? ⟨gb168, 0, none⟩ = some (.int .u64 t166) ∧ w36.cell? ⟨gb168, 1, none⟩ = some (.int .u64 t167) := hS_
            obtain ⟨Ao38, co38, eo38⟩ := Kd.R_slice HO174.out
            (first | subst eo38 | (injection eo38 with f1_ f2_ f3_; have f4_ := f1_.symm; have f5_ := f3_.symm; clear f1_ f2_ f3_; subst f4_; subst f5_))
            refine norm_ (a' := ?_) ?_ ?_
            rotate_left
            · simp only [putAll, Act.put, List.setIfInBounds_toArray, List.set_cons_zero, List.set_cons_succ]
              rfl
            refine one_ (i := 9) (N := some 54) #[true, true, true, true, true, true, true, true, true, true, false] rfl rfl (one_of HT_.out (by kernel_rfl)) (by decide) (fun K hK => ?_)
            refine Kd.R_append_rows_step k46 (w0 := w) w.heap.size (by rfl) (.tmp 51) (.tmp 53) 45 46 (.agg #[(.int .u64 0), (.int .u64 0)]) 16 rfl Tryd.underlying45 info46 rfl (by decide) (by omega) v170 y169 y172 _ _ _ (fun k_ => some k_ ≠ (.slice Ao38 y172.length co38 : Value).ownBlock ∧ k_ ≠ gb161 ∧ k_ ≠ gb168) (fun _ => False) rfl rfl ?aO ?aR (fun _ _ h => h) (fun _ h => h.elim) ?aF ?aB ?aS ?aL ?_
            (case aR => repeat (first | exact (Kd.R_reads' HO174.out).2.2 | (with_reducible refine Kd.C_alloc ?_ _) | (with_reducible refine Kd.C_drewN ?_ _) | (with_reducible refine Kd.C_drew ?_)))
            (case aB => exact (by repeat (first | (with_reducible first | exact HB.out | apply below_alloc | apply pw_below_drewN | apply below_drew1 | refine below_set ?_ GE157.out | refine below_set ?_ GE161.out | refine below_set ?_ GE168.out) | exact HB.out)))
            (case aF => exact (fun k_ hk => ⟨Kd.fresh' (Kd.R_lt (by (with_reducible repeat (first | apply Kd.R_alloc | apply Kd.R_drewN | apply Kd.R_drew)); exact HO174.out)) k_ hk, Kd.freshB (g := gb161) (o := .cells #[.int .u64 t159, .int .u64 t160] 46 (0, 0)) (by (with_reducible repeat (first | refine blk_drewN ?_ _ | refine blk_drew ?_ | refine blk_alloc ?_ _)); exact BK161.out) k_ hk, Kd.freshB (g := gb168) (o := .cells #[.int .u64 t166, .int .u64 t167] 46 (0, 0)) (by (with_reducible repeat (first | refine blk_drewN ?_ _ | refine blk_drew ?_ | refine blk_alloc ?_ _)); exact BK168.out) k_ hk⟩))
            (case aO => exact (by (with_reducible repeat (first | apply Kd.R_alloc | apply Kd.R_drewN | apply Kd.R_drew)); exact HO171.out))
            (case aS => exact (below_size (by repeat (first | (with_reducible first | exact HB.out | apply below_alloc | apply pw_below_drewN | apply below_drew1 | refine below_set ?_ GE157.out | refine below_set ?_ GE161.out | refine below_set ?_ GE168.out) | exact HB.out))))
            (case aL => have := LMc18.out; omega)
            intro v176 w37 ho hb hg hat
            rw [← Ny175.out] at ho
            have n0_ := Aside0.mk (blk_grown (g := gb157) (o := .cells #[.slice none 0 0, .int .i64 0, .int .i64 0, .int .u64 0, .int .u64 0] 52 (0, 0)) (by (with_reducible repeat (first | refine blk_drewN ?_ _ | refine blk_drew ?_ | refine blk_alloc ?_ _)); exact BK157.out) hg (Kd.R_ne HO171.out BK157.out (by decide)))
            have n1_ := Aside0.mk (blk_grown (g := gb161) (o := .cells #[.int .u64 t159, .int .u64 t160] 46 (0, 0)) (by (with_reducible repeat (first | refine blk_drewN ?_ _ | refine blk_drew ?_ | refine blk_alloc ?_ _)); exact BK161.out) hg (Kd.R_away HO171.out (fun _ hk => hk.2.1)))
            have n2_ := Aside0.mk (blk_grown (g := gb168) (o := .cells #[.int .u64 t166, .int .u64 t167] 46 (0, 0)) (by (with_reducible repeat (first | refine blk_drewN ?_ _ | refine blk_drew ?_ | refine blk_alloc ?_ _)); exact BK168.out) hg (Kd.R_away HO171.out (fun _ hk => hk.2.2)))
            have n3_ := Aside0.mk (Kd.R_after (ok := (fun k_ => k_ ≠ gb161 ∧ k_ ≠ gb168)) (by (with_reducible repeat (first | apply Kd.R_alloc | apply Kd.R_drewN | apply Kd.R_drew)); exact Kd.R_mono HO174.out (fun _ hk => ⟨⟨hk.2.1, hk.2.2⟩, hk.1⟩)) hg hat)
            have n4_ := Aside0.mk (hb)
            have n5_ := Aside0.mk (ho)
            clear BK157
            clear BK161
            clear BK168
            clear HO174
            clear HB
            clear HO171
            have BK157 := n0_
            have BK161 := n1_
            have BK168 := n2_
            have HO174 := n3_
            have HB := n4_
            have HO177 := n5_
            clear n0_ n1_ n2_ n3_ n4_ n5_
            clear ho hb hg hat
            refine hK.out _ _ ⟨(blk_cell BK168.out 0).trans rfl, (blk_cell BK168.out 1).trans rfl⟩ (fun hHeld => ?_)
            clear hK K
            refine norm_ (a' := ?_) ?_ ?_
            rotate_left
            · show Act.put _ (some 54) _ = _
              simp only [Act.put, List.setIfInBounds_toArray, List.set_cons_zero, List.set_cons_succ, i64_w, i32_w]
              rfl
            refine pure_ (i := 10) (N := some 14) (v := ?_) (a' := ?_) #[true, true, true, true, true, true, true, true, true, true, true] rfl rfl (any_of HT_.out (by kernel_rfl)) (fun _ _ _ h => h) (Or.inl ⟨by rfl, ?_⟩) ?_ ?_
            rotate_left
            · intro w'
              go_simp
              with_reducible rfl
            rotate_left
            · simp only [Act.put, List.setIfInBounds_toArray, List.set_cons_zero, List.set_cons_succ, i64_w, i32_w]
              rfl
            refine done_ (done_of HT_.out (by kernel_rfl)) ?_
            try go_wp2
            (try simp only [Act.put, List.setIfInBounds_toArray, List.set_cons_zero, List.set_cons_succ])
            go_loopg [14] k (fun kq v14 w' => ∃ (x14_1 : List (S46)) (x169000_1 : Int) (x169001_1 : Int), Aside0 (proof_nodes.l0 kq a2 t162 t163 t164 t165 x14_1 t159 t160 x169000_1 x169001_1 = some (r1, r2, r3, r4, r5)) ∧ Aside0 (kq ≤ k) ∧ Aside0 (Kd.R k46 46 w' w.heap.size (fun k_ => k_ ≠ gb161 ∧ k_ ≠ gb168) v14 x14_1) ∧ Aside0 (w'.heap[gb157]? = some (.cells #[(.slice none 0 0), .int .i64 0, .int .i64 0, .int .u64 0, .int .u64 0] 52 (0, 0))) ∧ Aside0 (w'.heap[gb161]? = some (.cells #[.int .u64 t159, .int .u64 t160] 46 (0, 0))) ∧ Aside0 (w'.heap[gb168]? = some (.cells #[.int .u64 x169000_1, .int .u64 x169001_1] 46 (0, 0))) ∧ Aside0 (Below w.heap.size w w'))
            case atStart => exact ⟨(y175), (t166), (t167), H', ⟨Nat.le_refl _⟩, ⟨by (with_reducible repeat (first | apply Kd.R_alloc | apply Kd.R_drewN | apply Kd.R_drew)); exact Kd.R_mono HO177.out (fun _ hk => ⟨hk.2.1, hk.2.2⟩)⟩, ⟨by (with_reducible repeat (first | refine blk_drewN ?_ _ | refine blk_drew ?_ | refine blk_alloc ?_ _)); exact BK157.out⟩, ⟨by (with_reducible repeat (first | refine blk_drewN ?_ _ | refine blk_drew ?_ | refine blk_alloc ?_ _)); exact BK161.out⟩, ⟨by (with_reducible repeat (first | refine blk_drewN ?_ _ | refine blk_drew ?_ | refine blk_alloc ?_ _)); exact BK168.out⟩, ⟨by repeat (first | (with_reducible first | exact HB.out | apply below_alloc | apply pw_below_drewN | apply below_drew1 | refine below_set ?_ GE157.out | refine below_set ?_ GE161.out | refine below_set ?_ GE168.out) | exact HB.out)⟩⟩
            case round =>
              clear H'
              try clear c1
              try clear c2
              try clear p2
              try clear c3
              try clear c4
              try clear c4b0
              try clear c4b1
              try clear p6
              try clear c8
              try clear c8b0
              try clear c8b1
              try clear c16
              try clear c16b0
              try clear c16b1
              try clear c17
              try clear c17b0
              try clear c17b1
              try clear c18
              try clear c21
              try clear c22
              try clear c27
              try clear c28
              try clear c32
              try clear c36
              try clear hcz23_0
              try clear hcz23_1
              try clear hcz29_0
              try clear hcz29_1
              try clear hfz23_0
              try clear hfz23_1
              try clear hfz29_0
              try clear hfz29_1
              obtain ⟨x14_1, x169000_1, x169001_1, HA, HK1, HO_14, BK157, BK161, BK168, HB⟩ := hrel
              cases gk with
              | zero => exact absurd HA.out (by simp [proof_nodes.l0])
              | succ k1 =>
                have H := HA.out
                clear HA
                simp only [proof_nodes.l0] at H
                by_cases c39 : x169000_1 < t159
                · rw [if_pos c39] at H
                  have c39b0 : decide (x169000_1 < t159) = true := decide_eq_true c39
                  clear c39
                  replace H := Option.bind_eq_some_iff.mp H
                  obtain ⟨⟨t178, t179⟩, A400, H⟩ := H
                  replace H : ((some (([(⟨t178, t179⟩ : S46)] : List (S46)) : List (S46))).bind fun y180 => (if x14_1.length + y180.length < 8796093022208 then ((compact_NodeID_Parent.f x169000_1 x169001_1).bind fun bt186 => (proof_nodes.l0 k1 a2 t162 t163 t164 t165 (x14_1 ++ y180) t159 t160 bt186.1 bt186.2)) else (none))) = some (r1, r2, r3, r4, r5) := H
                  have A40 := Aside0.mk A400
                  clear A400
                  obtain ⟨y180, hy180⟩ : ∃ y_ : List (S46), y_ = (([(⟨t178, t179⟩ : S46)] : List (S46))) := ⟨_, rfl⟩
                  replace H : (if x14_1.length + y180.length < 8796093022208 then ((compact_NodeID_Parent.f x169000_1 x169001_1).bind fun bt186 => (proof_nodes.l0 k1 a2 t162 t163 t164 t165 (x14_1 ++ y180) t159 t160 bt186.1 bt186.2)) else (none)) = some (r1, r2, r3, r4, r5) := by first | (rw [hy180]; with_reducible exact H) | (have H2_ := (Option.bind_some _ _).symm.trans H; rw [hy180]; with_reducible exact H2_) | (have H2_ := (Option.bind_some _ _).symm.trans H; with_reducible exact H2_) | with_reducible exact H | (rw [hy180]; exact H) | exact H
                  have Ny180 := Aside0.mk hy180
                  clear hy180
                  by_cases c41 : x14_1.length + y180.length < 8796093022208
                  · rw [if_pos c41] at H
                    have LMc41 := Aside0.mk c41
                    clear c41
                    obtain ⟨y183, hy183⟩ : ∃ y_ : List (S46), y_ = (x14_1 ++ y180) := ⟨_, rfl⟩
                    replace H : ((compact_NodeID_Parent.f x169000_1 x169001_1).bind fun bt186 => (proof_nodes.l0 k1 a2 t162 t163 t164 t165 y183 t159 t160 bt186.1 bt186.2)) = some (r1, r2, r3, r4, r5) := by first | (rw [hy183]; with_reducible exact H) | (have H2_ := (Option.bind_some _ _).symm.trans H; rw [hy183]; with_reducible exact H2_) | (have H2_ := (Option.bind_some _ _).symm.trans H; with_reducible exact H2_) | with_reducible exact H | (rw [hy183]; exact H) | exact H
                    have Ny183 := Aside0.mk hy183
                    clear hy183
                    replace H := Option.bind_eq_some_iff.mp H
                    obtain ⟨⟨t186, t187⟩, A420, H⟩ := H
                    replace H : (proof_nodes.l0 k1 a2 t162 t163 t164 t165 y183 t159 t160 t186 t187) = some (r1, r2, r3, r4, r5) := H
                    have A42 := Aside0.mk A420
                    clear A420
                    have H' := Aside0.mk H
                    clear H
                    have hnb43 := NB168_157.out
                    have hnc43 := NB157_168.out
                    have hnb44 := NB168_161.out
                    have hnc44 := NB161_168.out
                    have hcz45_0 : wr.cell? ⟨gb168, 0, none⟩ = some (.int .u64 x169000_1) := (blk_cell BK168.out 0).trans rfl
                    have hcz45_1 : wr.cell? ⟨gb168, 1, none⟩ = some (.int .u64 x169001_1) := (blk_cell BK168.out 1).trans rfl
                    have hfz45_0 := blk_frozen BK168.out 0
                    have hfz45_1 := blk_frozen BK168.out 1
                    have hnb46 := NB161_157.out
                    have hnc46 := NB157_161.out
                    have hcz47_0 : wr.cell? ⟨gb161, 0, none⟩ = some (.int .u64 t159) := (blk_cell BK161.out 0).trans rfl
                    have hcz47_1 : wr.cell? ⟨gb161, 1, none⟩ = some (.int .u64 t160) := (blk_cell BK161.out 1).trans rfl
                    have hfz47_0 := blk_frozen BK161.out 0
                    have hfz47_1 := blk_frozen BK161.out 1
                    go_wp2_with (first | ((with_reducible refine gate_callee (f := 46) rfl ?_); refine goesL_ (some 64) rfl rfl Tryd.func46 (by kernel_rfl) rfl #[.agg #[.int .u64 x169000_1, .int .u64 x169001_1]] rfl (by (try simp only [List.map_toArray, List.map_cons, List.map_nil]); first | done | rfl | (simp only [List.length_drop, List.length_take]; rfl)) ?_; (with_reducible refine (compact_NodeID_Sibling.calls x169000_1 x169001_1 t178 t179 _ A40.out).mono ?_); rintro e w48 ⟨rfl, hb⟩; refine ⟨_, rfl, ?_⟩; have n0_ := Aside0.mk (Kd.R_below (by (with_reducible repeat (first | apply Kd.R_alloc | apply Kd.R_drewN | apply Kd.R_drew)); exact HO_14.out) hb); have n1_ := Aside0.mk (blk_below (g := gb157) (o := .cells #[.slice none 0 0, .int .i64 0, .int .i64 0, .int .u64 0, .int .u64 0] 52 (0, 0)) (by (with_reducible repeat (first | refine blk_drewN ?_ _ | refine blk_drew ?_ | refine blk_alloc ?_ _)); exact BK157.out) hb); have n2_ := Aside0.mk (blk_below (g := gb161) (o := .cells #[.int .u64 t159, .int .u64 t160] 46 (0, 0)) (by (with_reducible repeat (first | refine blk_drewN ?_ _ | refine blk_drew ?_ | refine blk_alloc ?_ _)); exact BK161.out) hb); have n3_ := Aside0.mk (blk_below (g := gb168) (o := .cells #[.int .u64 x169000_1, .int .u64 x169001_1] 46 (0, 0)) (by (with_reducible repeat (first | refine blk_drewN ?_ _ | refine blk_drew ?_ | refine blk_alloc ?_ _)); exact BK168.out) hb); have n4_ := Aside0.mk (below_step (by repeat (first | (with_reducible first | exact HB.out | apply below_alloc | apply pw_below_drewN | apply below_drew1 | refine below_set ?_ GE157.out | refine below_set ?_ GE161.out | refine below_set ?_ GE168.out) | exact HB.out)) hb); clear HO_14; clear BK157; clear BK161; clear BK168; clear HB; have HO_14 := n0_; have BK157 := n1_; have BK161 := n2_; have BK168 := n3_; have HB := n4_; clear n0_ n1_ n2_ n3_ n4_; (try clear hb); (try clear hb2); (try clear hk); (try clear hi)) | ((with_reducible refine gate_dst (N := 65) rfl ?_); refine Kd.R_lit k46 _ 46 ?hg (N := 65) ?hd (xs := ([(⟨t178, t179⟩ : S46)] : List (S46))) (inner := [.int .u64 t178, .int .u64 t179]) (ok := fun _ => True) (okp := fun _ => True) ?hr ?hp (fun _ hk => hk) trivial (Below.refl _ _) (Nat.le_refl _) (by simp) ?_; (case hd => rfl); (case hg => rfl); (case hr => first | (go_simp; done) | (go_simp; rfl)); (case hp => exact (Reps.c2 (show Kd.M k46 _ _ _ (⟨t178, t179⟩ : S46) [.int .u64 t178, .int .u64 t179] from (k46_mkM _ _ _ (⟨t178, t179⟩ : S46) )) (Reps.none _ _))); intro v181 w49 ho50 hb hg_ hnew_; clear hg_ hnew_; (first | rw [← Ny180.out] at ho50 | (simp only [Int.reduceToNat] at ho50; rw [← Ny180.out] at ho50)); have n0_ := Aside0.mk (Kd.R_elder' (by (with_reducible repeat (first | apply Kd.R_alloc | apply Kd.R_drewN | apply Kd.R_drew)); exact HO_14.out) (Kd.R_base ho50) hb); have n1_ := Aside0.mk (Kd.R_lower (Kd.R_newB (Kd.R_newB (Kd.R_new' ho50 (Kd.R_lt (by (with_reducible repeat (first | apply Kd.R_alloc | apply Kd.R_drewN | apply Kd.R_drew)); exact HO_14.out))) (g := gb161) (o := .cells #[.int .u64 t159, .int .u64 t160] 46 (0, 0)) (by (with_reducible repeat (first | refine blk_drewN ?_ _ | refine blk_drew ?_ | refine blk_alloc ?_ _)); exact BK161.out)) (g := gb168) (o := .cells #[.int .u64 x169000_1, .int .u64 x169001_1] 46 (0, 0)) (by (with_reducible repeat (first | refine blk_drewN ?_ _ | refine blk_drew ?_ | refine blk_alloc ?_ _)); exact BK168.out)) (below_size (by repeat (first | (with_reducible first | exact HB.out | apply below_alloc | apply pw_below_drewN | apply below_drew1 | refine below_set ?_ GE157.out | refine below_set ?_ GE161.out | refine below_set ?_ GE168.out) | exact HB.out)))); have n2_ := Aside0.mk (blk_below (g := gb157) (o := .cells #[.slice none 0 0, .int .i64 0, .int .i64 0, .int .u64 0, .int .u64 0] 52 (0, 0)) (by (with_reducible repeat (first | refine blk_drewN ?_ _ | refine blk_drew ?_ | refine blk_alloc ?_ _)); exact BK157.out) hb); have n3_ := Aside0.mk (blk_below (g := gb161) (o := .cells #[.int .u64 t159, .int .u64 t160] 46 (0, 0)) (by (with_reducible repeat (first | refine blk_drewN ?_ _ | refine blk_drew ?_ | refine blk_alloc ?_ _)); exact BK161.out) hb); have n4_ := Aside0.mk (blk_below (g := gb168) (o := .cells #[.int .u64 x169000_1, .int .u64 x169001_1] 46 (0, 0)) (by (with_reducible repeat (first | refine blk_drewN ?_ _ | refine blk_drew ?_ | refine blk_alloc ?_ _)); exact BK168.out) hb); have n5_ := Aside0.mk (below_step (by repeat (first | (with_reducible first | exact HB.out | apply below_alloc | apply pw_below_drewN | apply below_drew1 | refine below_set ?_ GE157.out | refine below_set ?_ GE161.out | refine below_set ?_ GE168.out) | exact HB.out)) hb); clear HO_14; clear BK157; clear BK161; clear BK168; clear HB; have HO_14 := n0_; have HO182 := n1_; have BK157 := n2_; have BK161 := n3_; have BK168 := n4_; have HB := n5_; clear n0_ n1_ n2_ n3_ n4_ n5_; clear hb ho50; obtain ⟨Ao52, co52, eo52⟩ := Kd.R_slice HO182.out; subst eo52) | ((with_reducible refine gate_builtin (b := .append) (xs := #[.tmp 62, .tmp 65]) rfl ?_); at_builtin; refine Kd.R_append_rows k46 (w0 := w) w.heap.size rfl (.tmp 62) (.tmp 65) 45 46 (.agg #[(.int .u64 0), (.int .u64 0)]) 16 rfl Tryd.underlying45 info46 rfl (by decide) (by omega) u14 x14_1 y180 _ _ _ (fun k_ => some k_ ≠ (.slice Ao52 y180.length co52 : Value).ownBlock ∧ k_ ≠ gb161 ∧ k_ ≠ gb168) (fun _ => False) rfl rfl ?aO ?aR (fun _ _ h => h) (fun _ h => h.elim) ?aF ?aB ?aS ?aL ?_; (case aR => repeat (first | exact (Kd.R_reads' HO182.out).2.2 | (with_reducible refine Kd.C_alloc ?_ _) | (with_reducible refine Kd.C_drewN ?_ _) | (with_reducible refine Kd.C_drew ?_))); (case aB => exact (by repeat (first | (with_reducible first | exact HB.out | apply below_alloc | apply pw_below_drewN | apply below_drew1 | refine below_set ?_ GE157.out | refine below_set ?_ GE161.out | refine below_set ?_ GE168.out) | exact HB.out))); (case aF => exact (fun k_ hk => ⟨Kd.fresh' (Kd.R_lt (by (with_reducible repeat (first | apply Kd.R_alloc | apply Kd.R_drewN | apply Kd.R_drew)); exact HO182.out)) k_ hk, Kd.freshB (g := gb161) (o := .cells #[.int .u64 t159, .int .u64 t160] 46 (0, 0)) (by (with_reducible repeat (first | refine blk_drewN ?_ _ | refine blk_drew ?_ | refine blk_alloc ?_ _)); exact BK161.out) k_ hk, Kd.freshB (g := gb168) (o := .cells #[.int .u64 x169000_1, .int .u64 x169001_1] 46 (0, 0)) (by (with_reducible repeat (first | refine blk_drewN ?_ _ | refine blk_drew ?_ | refine blk_alloc ?_ _)); exact BK168.out) k_ hk⟩)); (case aO => exact (by (with_reducible repeat (first | apply Kd.R_alloc | apply Kd.R_drewN | apply Kd.R_drew)); exact Kd.R_mono HO_14.out (fun _ hk => ⟨hk.2, ⟨hk.1.1, hk.1.2⟩⟩))); (case aS => exact (below_size (by repeat (first | (with_reducible first | exact HB.out | apply below_alloc | apply pw_below_drewN | apply below_drew1 | refine below_set ?_ GE157.out | refine below_set ?_ GE161.out | refine below_set ?_ GE168.out) | exact HB.out)))); (case aL => have := LMc41.out; omega); intro v184 w51 ho hb hg hat; rw [← Ny183.out] at ho; have n0_ := Aside0.mk (blk_grown (g := gb157) (o := .cells #[.slice none 0 0, .int .i64 0, .int .i64 0, .int .u64 0, .int .u64 0] 52 (0, 0)) (by (with_reducible repeat (first | refine blk_drewN ?_ _ | refine blk_drew ?_ | refine blk_alloc ?_ _)); exact BK157.out) hg (Kd.R_ne HO_14.out BK157.out (by decide))); have n1_ := Aside0.mk (blk_grown (g := gb161) (o := .cells #[.int .u64 t159, .int .u64 t160] 46 (0, 0)) (by (with_reducible repeat (first | refine blk_drewN ?_ _ | refine blk_drew ?_ | refine blk_alloc ?_ _)); exact BK161.out) hg (Kd.R_away HO_14.out (fun _ hk => hk.1.1))); have n2_ := Aside0.mk (blk_grown (g := gb168) (o := .cells #[.int .u64 x169000_1, .int .u64 x169001_1] 46 (0, 0)) (by (with_reducible repeat (first | refine blk_drewN ?_ _ | refine blk_drew ?_ | refine blk_alloc ?_ _)); exact BK168.out) hg (Kd.R_away HO_14.out (fun _ hk => hk.1.2))); have n3_ := Aside0.mk (Kd.R_after (ok := (fun k_ => k_ ≠ gb161 ∧ k_ ≠ gb168)) (by (with_reducible repeat (first | apply Kd.R_alloc | apply Kd.R_drewN | apply Kd.R_drew)); exact Kd.R_mono HO182.out (fun _ hk => ⟨⟨hk.1.2, hk.2⟩, hk.1.1.2⟩)) hg hat); have n4_ := Aside0.mk (hb); have n5_ := Aside0.mk (ho); clear BK157; clear BK161; clear BK168; clear HO182; clear HB; clear HO_14; have BK157 := n0_; have BK161 := n1_; have BK168 := n2_; have HO182 := n3_; have HB := n4_; have HO185 := n5_; clear n0_ n1_ n2_ n3_ n4_ n5_; clear ho hb hg hat; have hcz53_0 : w51.cell? ⟨gb168, 0, none⟩ = some (.int .u64 x169000_1) := (blk_cell BK168.out 0).trans rfl; have hcz53_1 : w51.cell? ⟨gb168, 1, none⟩ = some (.int .u64 x169001_1) := (blk_cell BK168.out 1).trans rfl; have hfz53_0 := blk_frozen BK168.out 0; have hfz53_1 := blk_frozen BK168.out 1) | ((with_reducible refine gate_callee (f := 45) rfl ?_); refine goesL_ (some 61) rfl rfl Tryd.func45 (by kernel_rfl) rfl #[.agg #[.int .u64 x169000_1, .int .u64 x169001_1]] rfl (by (try simp only [List.map_toArray, List.map_cons, List.map_nil]); first | done | rfl | (simp only [List.length_drop, List.length_take]; rfl)) ?_; (with_reducible refine (compact_NodeID_Parent.calls x169000_1 x169001_1 t186 t187 _ A42.out).mono ?_); rintro e w54 ⟨rfl, hb⟩; refine ⟨_, rfl, ?_⟩; have n0_ := Aside0.mk (Kd.R_below (by (with_reducible repeat (first | apply Kd.R_alloc | apply Kd.R_drewN | apply Kd.R_drew)); exact HO182.out) hb); have n1_ := Aside0.mk (Kd.R_below (by (with_reducible repeat (first | apply Kd.R_alloc | apply Kd.R_drewN | apply Kd.R_drew)); exact HO185.out) hb); have n2_ := Aside0.mk (blk_below (g := gb157) (o := .cells #[.slice none 0 0, .int .i64 0, .int .i64 0, .int .u64 0, .int .u64 0] 52 (0, 0)) (by (with_reducible repeat (first | refine blk_drewN ?_ _ | refine blk_drew ?_ | refine blk_alloc ?_ _)); exact BK157.out) hb); have n3_ := Aside0.mk (blk_below (g := gb161) (o := .cells #[.int .u64 t159, .int .u64 t160] 46 (0, 0)) (by (with_reducible repeat (first | refine blk_drewN ?_ _ | refine blk_drew ?_ | refine blk_alloc ?_ _)); exact BK161.out) hb); have n4_ := Aside0.mk (blk_below (g := gb168) (o := .cells #[.int .u64 x169000_1, .int .u64 x169001_1] 46 (0, 0)) (by (with_reducible repeat (first | refine blk_drewN ?_ _ | refine blk_drew ?_ | refine blk_alloc ?_ _)); exact BK168.out) hb); have n5_ := Aside0.mk (below_step (by repeat (first | (with_reducible first | exact HB.out | apply below_alloc | apply pw_below_drewN | apply below_drew1 | refine below_set ?_ GE157.out | refine below_set ?_ GE161.out | refine below_set ?_ GE168.out) | exact HB.out)) hb); clear HO182; clear HO185; clear BK157; clear BK161; clear BK168; clear HB; have HO182 := n0_; have HO185 := n1_; have BK157 := n2_; have BK161 := n3_; have BK168 := n4_; have HB := n5_; clear n0_ n1_ n2_ n3_ n4_ n5_; (try clear hb); (try clear hb2); (try clear hk); (try clear hi); have hcz55_0 : w54.cell? ⟨gb168, 0, none⟩ = some (.int .u64 x169000_1) := (blk_cell BK168.out 0).trans rfl; have hcz55_1 : w54.cell? ⟨gb168, 1, none⟩ = some (.int .u64 x169001_1) := (blk_cell BK168.out 1).trans rfl; have hfz55_0 := blk_frozen BK168.out 0; have hfz55_1 := blk_frozen BK168.out 1))
                    go_roundg k1
                    case measure => have := HK1.out; omega
                    case rel => exact ⟨(y183), (t186), (t187), H', ⟨by have := HK1.out; omega⟩, ⟨by (with_reducible repeat (first | apply Kd.R_alloc | apply Kd.R_drewN | apply Kd.R_drew)); exact Kd.R_mono (Kd.R_far (p := ⟨gb168, 1, none⟩) (Kd.R_far (p := ⟨gb168, 0, none⟩) (Kd.R_mono HO185.out (fun k_ hk => (⟨hk, hk.2.2⟩ : _ ∧ k_ ≠ gb168))) (fun _ hk => hk.2) (.int .u64 t186)) (fun _ hk => hk.2) (.int .u64 t187)) (fun _ hk => ⟨hk.1.2.1, hk.1.2.2⟩)⟩, ⟨by (with_reducible repeat (first | refine blk_drewN ?_ _ | refine blk_drew ?_ | refine blk_alloc ?_ _)); refine blk_far ?_ NB157_168.out _; (with_reducible repeat (first | refine blk_drewN ?_ _ | refine blk_drew ?_ | refine blk_alloc ?_ _)); refine blk_far ?_ NB157_168.out _; (with_reducible repeat (first | refine blk_drewN ?_ _ | refine blk_drew ?_ | refine blk_alloc ?_ _)); exact BK157.out⟩, ⟨by (with_reducible repeat (first | refine blk_drewN ?_ _ | refine blk_drew ?_ | refine blk_alloc ?_ _)); refine blk_far ?_ NB161_168.out _; (with_reducible repeat (first | refine blk_drewN ?_ _ | refine blk_drew ?_ | refine blk_alloc ?_ _)); refine blk_far ?_ NB161_168.out _; (with_reducible repeat (first | refine blk_drewN ?_ _ | refine blk_drew ?_ | refine blk_alloc ?_ _)); exact BK161.out⟩, ⟨by (with_reducible repeat (first | refine blk_drewN ?_ _ | refine blk_drew ?_ | refine blk_alloc ?_ _)); refine blk_put (cs := #[.int .u64 t186, .int .u64 x169001_1]) ?_ 1 _ rfl; (with_reducible repeat (first | refine blk_drewN ?_ _ | refine blk_drew ?_ | refine blk_alloc ?_ _)); refine blk_put (cs := #[.int .u64 x169000_1, .int .u64 x169001_1]) ?_ 0 _ rfl; (with_reducible repeat (first | refine blk_drewN ?_ _ | refine blk_drew ?_ | refine blk_alloc ?_ _)); exact BK168.out⟩, ⟨by repeat (first | (with_reducible first | exact HB.out | apply below_alloc | apply pw_below_drewN | apply below_drew1 | refine below_set ?_ GE157.out | refine below_set ?_ GE161.out | refine below_set ?_ GE168.out) | exact HB.out)⟩⟩
                  · rw [if_neg c41] at H
                    exact absurd H (by simp)
                · rw [if_neg c39] at H
                  have c39b0 : decide (x169000_1 < t159) = false := decide_eq_false c39
                  clear c39
                  replace H := Option.bind_eq_some_iff.mp H
                  obtain ⟨t188, A560, H⟩ := H
                  replace H : ((proof_revtail.f k1 t188 (wrap64 ((t188.length : Int) - t165))).bind fun t191 => ((compact_RangeNodes.f k1 0 t162 t191).bind fun t192 => ((proof_revtail.f k1 t192 (wrap64 ((t192.length : Int) - t164))).bind fun t195 => (if (x14_1.length : Int) ≥ (t188.length : Int) then ((compact_NodeID_Sibling.f t159 t160).bind fun bt196 => (some (t195, 0, 0, bt196.1, bt196.2))) else ((compact_NodeID_Sibling.f t159 t160).bind fun bt198 => (some (t195, (x14_1.length : Int), (t188.length : Int), bt198.1, bt198.2))))))) = some (r1, r2, r3, r4, r5) := H
                  have A56 := Aside0.mk A560
                  clear A560
                  replace H := Option.bind_eq_some_iff.mp H
                  obtain ⟨t191, A570, H⟩ := H
                  replace H : ((compact_RangeNodes.f k1 0 t162 t191).bind fun t192 => ((proof_revtail.f k1 t192 (wrap64 ((t192.length : Int) - t164))).bind fun t195 => (if (x14_1.length : Int) ≥ (t188.length : Int) then ((compact_NodeID_Sibling.f t159 t160).bind fun bt196 => (some (t195, 0, 0, bt196.1, bt196.2))) else ((compact_NodeID_Sibling.f t159 t160).bind fun bt198 => (some (t195, (x14_1.length : Int), (t188.length : Int), bt198.1, bt198.2)))))) = some (r1, r2, r3, r4, r5) := H
                  have A57 := Aside0.mk A570
                  clear A570
                  replace H := Option.bind_eq_some_iff.mp H
                  obtain ⟨t192, A580, H⟩ := H
                  replace H : ((proof_revtail.f k1 t192 (wrap64 ((t192.length : Int) - t164))).bind fun t195 => (if (x14_1.length : Int) ≥ (t188.length : Int) then ((compact_NodeID_Sibling.f t159 t160).bind fun bt196 => (some (t195, 0, 0, bt196.1, bt196.2))) else ((compact_NodeID_Sibling.f t159 t160).bind fun bt198 => (some (t195, (x14_1.length : Int), (t188.length : Int), bt198.1, bt198.2))))) = some (r1, r2, r3, r4, r5) := H
                  have A58 := Aside0.mk A580
                  clear A580
                  replace H := Option.bind_eq_some_iff.mp H
                  obtain ⟨t195, A590, H⟩ := H
                  replace H : (if (x14_1.length : Int) ≥ (t188.length : Int) then ((compact_NodeID_Sibling.f t159 t160).bind fun bt196 => (some (t195, 0, 0, bt196.1, bt196.2))) else ((compact_NodeID_Sibling.f t159 t160).bind fun bt198 => (some (t195, (x14_1.length : Int), (t188.length : Int), bt198.1, bt198.2)))) = some (r1, r2, r3, r4, r5) := H
                  have A59 := Aside0.mk A590
                  clear A590
                  by_cases c60 : (x14_1.length : Int) ≥ (t188.length : Int)
                  · rw [if_pos c60] at H
                    have c60b0 : decide ((t188.length : Int) ≤ (x14_1.length : Int)) = true := decide_eq_true c60
                    have c60b1 : decide (t188.length ≤ x14_1.length) = true := decide_eq_true (Int.ofNat_le.mp c60)
                    clear c60
                    replace H := Option.bind_eq_some_iff.mp H
                    obtain ⟨⟨t196, t197⟩, A610, H⟩ := H
                    replace H : (some (t195, 0, 0, t196, t197)) = some (r1, r2, r3, r4, r5) := H
                    have A61 := Aside0.mk A610
                    clear A610
                    simp only [Option.some.injEq, Prod.mk.injEq] at H
                    obtain ⟨rfl, rfl, rfl, rfl, rfl⟩ := H
                    have hnb62 := NB168_157.out
                    have hnc62 := NB157_168.out
                    have hnb63 := NB168_161.out
                    have hnc63 := NB161_168.out
                    have hcz64_0 : wr.cell? ⟨gb168, 0, none⟩ = some (.int .u64 x169000_1) := (blk_cell BK168.out 0).trans rfl
                    have hcz64_1 : wr.cell? ⟨gb168, 1, none⟩ = some (.int .u64 x169001_1) := (blk_cell BK168.out 1).trans rfl
                    have hfz64_0 := blk_frozen BK168.out 0
                    have hfz64_1 := blk_frozen BK168.out 1
                    have hnb65 := NB161_157.out
                    have hnc65 := NB157_161.out
                    have hcz66_0 : wr.cell? ⟨gb161, 0, none⟩ = some (.int .u64 t159) := (blk_cell BK161.out 0).trans rfl
                    have hcz66_1 : wr.cell? ⟨gb161, 1, none⟩ = some (.int .u64 t160) := (blk_cell BK161.out 1).trans rfl
                    have hfz66_0 := blk_frozen BK161.out 0
                    have hfz66_1 := blk_frozen BK161.out 1
                    obtain ⟨Ao67, co67, eo67⟩ := Kd.R_slice HO_14.out
                    subst eo67
                    go_wp2_with (first | ((with_reducible refine gate_callee (f := 20) rfl ?_); refine goesL_ (some 72) rfl rfl Tryd.func20 (by kernel_rfl) rfl #[.int .u64 t163, .int .u64 a2, .slice Ao67 x14_1.length co67] rfl (by (try simp only [List.map_toArray, List.map_cons, List.map_nil]); first | done | rfl | (simp only [List.length_drop, List.length_take]; rfl)) ?_; (with_reducible refine (compact_RangeNodes.calls k1 t163 a2 (fun k_ => some k_ = (.slice Ao67 x14_1.length co67 : Value).ownBlock) (.slice Ao67 x14_1.length co67) x14_1 t188 w _ ?side1 ?side2 ?side3 A56.out).mono ?_); (case side1 => repeat (first | (with_reducible first | exact HB.out | apply below_alloc | apply pw_below_drewN | apply below_drew1 | refine below_set ?_ GE157.out | refine below_set ?_ GE161.out | refine below_set ?_ GE168.out) | exact HB.out)); (case side2 => exact Kd.R_tight rfl HO_14.out); (case side3 => exact HG.out); rintro e w68 ⟨v189, rfl, ho0, hb, hkp⟩; refine ⟨_, rfl, ?_⟩; have n0_ := Aside0.mk (blk_kept (by (with_reducible repeat (first | refine blk_drewN ?_ _ | refine blk_drew ?_ | refine blk_alloc ?_ _)); exact BK157.out) hkp (fun hs_ => (fun e_ => (Kd.R_ne HO_14.out BK157.out (by decide)) e_) hs_)); have n1_ := Aside0.mk (blk_kept (by (with_reducible repeat (first | refine blk_drewN ?_ _ | refine blk_drew ?_ | refine blk_alloc ?_ _)); exact BK161.out) hkp (fun hs_ => (fun e_ => (Kd.R_away HO_14.out (fun _ hk => hk.1)) e_) hs_)); have n2_ := Aside0.mk (blk_kept (by (with_reducible repeat (first | refine blk_drewN ?_ _ | refine blk_drew ?_ | refine blk_alloc ?_ _)); exact BK168.out) hkp (fun hs_ => (fun e_ => (Kd.R_away HO_14.out (fun _ hk => hk.2)) e_) hs_)); have n3_ := Aside0.mk (Kd.R_mono (ok' := fun k_ => k_ ≠ gb161 ∧ k_ ≠ gb168) ho0 (fun k_ hk_ => ⟨Or.elim hk_ (fun hs_ => fun e_ => (Kd.R_away HO_14.out (fun _ hk => hk.1)) (by rw [← e_]; exact hs_)) (fun hn_ => (Kd.freshB (g := gb161) (o := .cells #[.int .u64 t159, .int .u64 t160] 46 (0, 0)) (by (with_reducible repeat (first | refine blk_drewN ?_ _ | refine blk_drew ?_ | refine blk_alloc ?_ _)); exact BK161.out) k_ hn_)), Or.elim hk_ (fun hs_ => fun e_ => (Kd.R_away HO_14.out (fun _ hk => hk.2)) (by rw [← e_]; exact hs_)) (fun hn_ => (Kd.freshB (g := gb168) (o := .cells #[.int .u64 x169000_1, .int .u64 x169001_1] 46 (0, 0)) (by (with_reducible repeat (first | refine blk_drewN ?_ _ | refine blk_drew ?_ | refine blk_alloc ?_ _)); exact BK168.out) k_ hn_))⟩)); have n4_ := Aside0.mk (hb); clear BK157; clear BK161; clear BK168; clear HB; clear HO_14; have BK157 := n0_; have BK161 := n1_; have BK168 := n2_; have HO190 := n3_; have HB := n4_; clear n0_ n1_ n2_ n3_ n4_; (try clear hb); (try clear hkp); (try clear ho0); obtain ⟨Ao69, co69, eo69⟩ := Kd.R_slice HO190.out; subst eo69; obtain ⟨i0x69, hi0x69, _, hszx69, _⟩ := info_parts info46; have hcutx69 := cut_from (P := Tryd.prog) 45 46 .i64 Tryd.underlying45 hi0x69 2 hszx69 Ao69 t188.length co69 (wrap64 ((t188.length : Int) - t165)) (proof_revtail.bounds A57.out).1 (proof_revtail.bounds A57.out).2; obtain ⟨AX69, hAX⟩ : ∃ A1 : Option Addr, A1 = (if co69 = ((wrap64 ((t188.length : Int) - t165)) : Int).toNat then Ao69 else (Ao69 : Option Addr).map (·.add (((wrap64 ((t188.length : Int) - t165)) : Int).toNat * 2))) := ⟨_, rfl⟩; rw [← hAX] at hcutx69; have hAX69 := Aside0.mk hAX; clear hAX hi0x69 hszx69) | ((with_reducible refine gate_callee (f := 47) rfl ?_); refine goesL_ (some 79) rfl rfl Tryd.func47 (by kernel_rfl) rfl #[.slice AX69 (t188.length - ((wrap64 ((t188.length : Int) - t165)) : Int).toNat) (co69 - ((wrap64 ((t188.length : Int) - t165)) : Int).toNat)] rfl (by (try simp only [List.map_toArray, List.map_cons, List.map_nil]); first | done | rfl | (simp only [List.length_drop, List.length_take]; rfl)) ?_; (with_reducible refine (proof_revtail.calls k1 (fun k_ => some k_ = (.slice Ao69 t188.length co69 : Value).ownBlock) Ao69 t188.length co69 t188 (wrap64 ((t188.length : Int) - t165)) t191 w _ AX69 hAX69.out ?side1 ?side2 A57.out).mono ?_); (case side1 => repeat (first | (with_reducible first | exact HB.out | apply below_alloc | apply pw_below_drewN | apply below_drew1 | refine below_set ?_ GE157.out | refine below_set ?_ GE161.out | refine below_set ?_ GE168.out) | exact HB.out)); (case side2 => exact Kd.R_tight rfl HO190.out); rintro e w70 ⟨rfl, hy0, hb, hkp⟩; refine ⟨_, rfl, ?_⟩; have n0_ := Aside0.mk (blk_kept (by (with_reducible repeat (first | refine blk_drewN ?_ _ | refine blk_drew ?_ | refine blk_alloc ?_ _)); exact BK157.out) hkp (fun hs_ => (fun e_ => (Kd.R_ne HO190.out BK157.out (by decide)) e_) hs_)); have n1_ := Aside0.mk (blk_kept (by (with_reducible repeat (first | refine blk_drewN ?_ _ | refine blk_drew ?_ | refine blk_alloc ?_ _)); exact BK161.out) hkp (fun hs_ => (fun e_ => (Kd.R_away HO190.out (fun _ hk => hk.1)) e_) hs_)); have n2_ := Aside0.mk (blk_kept (by (with_reducible repeat (first | refine blk_drewN ?_ _ | refine blk_drew ?_ | refine blk_alloc ?_ _)); exact BK168.out) hkp (fun hs_ => (fun e_ => (Kd.R_away HO190.out (fun _ hk => hk.2)) e_) hs_)); have n3_ := Aside0.mk (Kd.R_reok rfl hy0 (fun k_ e_ => HO190.out.1 k_ e_)); have n4_ := Aside0.mk (hb); clear BK157; clear BK161; clear BK168; clear HO190; clear HB; have BK157 := n0_; have BK161 := n1_; have BK168 := n2_; have HO190 := n3_; have HB := n4_; clear n0_ n1_ n2_ n3_ n4_; (try clear hb); (try clear hkp); (try clear hy0)) | ((with_reducible refine gate_callee (f := 20) rfl ?_); refine goesL_ (some 84) rfl rfl Tryd.func20 (by kernel_rfl) rfl #[.int .u64 0, .int .u64 t162, .slice Ao69 t188.length co69] rfl (by (try simp only [List.map_toArray, List.map_cons, List.map_nil]); first | done | rfl | (simp only [List.length_drop, List.length_take]; rfl)) ?_; (with_reducible refine (compact_RangeNodes.calls k1 0 t162 (fun k_ => some k_ = (.slice Ao69 t188.length co69 : Value).ownBlock) (.slice Ao69 t188.length co69) t191 t192 w _ ?side1 ?side2 ?side3 A58.out).mono ?_); (case side1 => repeat (first | (with_reducible first | exact HB.out | apply below_alloc | apply pw_below_drewN | apply below_drew1 | refine below_set ?_ GE157.out | refine below_set ?_ GE161.out | refine below_set ?_ GE168.out) | exact HB.out)); (case side2 => exact Kd.R_tight rfl HO190.out); (case side3 => exact HG.out); rintro e w71 ⟨v193, rfl, ho0, hb, hkp⟩; refine ⟨_, rfl, ?_⟩; have n0_ := Aside0.mk (blk_kept (by (with_reducible repeat (first | refine blk_drewN ?_ _ | refine blk_drew ?_ | refine blk_alloc ?_ _)); exact BK157.out) hkp (fun hs_ => (fun e_ => (Kd.R_ne HO190.out BK157.out (by decide)) e_) hs_)); have n1_ := Aside0.mk (blk_kept (by (with_reducible repeat (first | refine blk_drewN ?_ _ | refine blk_drew ?_ | refine blk_alloc ?_ _)); exact BK161.out) hkp (fun hs_ => (fun e_ => (Kd.R_away HO190.out (fun _ hk => hk.1)) e_) hs_)); have n2_ := Aside0.mk (blk_kept (by (with_reducible repeat (first | refine blk_drewN ?_ _ | refine blk_drew ?_ | refine blk_alloc ?_ _)); exact BK168.out) hkp (fun hs_ => (fun e_ => (Kd.R_away HO190.out (fun _ hk => hk.2)) e_) hs_)); have n3_ := Aside0.mk (Kd.R_mono (ok' := fun k_ => k_ ≠ gb161 ∧ k_ ≠ gb168) ho0 (fun k_ hk_ => ⟨Or.elim hk_ (fun hs_ => fun e_ => (Kd.R_away HO190.out (fun _ hk => hk.1)) (by rw [← e_]; exact hs_)) (fun hn_ => (Kd.freshB (g := gb161) (o := .cells #[.int .u64 t159, .int .u64 t160] 46 (0, 0)) (by (with_reducible repeat (first | refine blk_drewN ?_ _ | refine blk_drew ?_ | refine blk_alloc ?_ _)); exact BK161.out) k_ hn_)), Or.elim hk_ (fun hs_ => fun e_ => (Kd.R_away HO190.out (fun _ hk => hk.2)) (by rw [← e_]; exact hs_)) (fun hn_ => (Kd.freshB (g := gb168) (o := .cells #[.int .u64 x169000_1, .int .u64 x169001_1] 46 (0, 0)) (by (with_reducible repeat (first | refine blk_drewN ?_ _ | refine blk_drew ?_ | refine blk_alloc ?_ _)); exact BK168.out) k_ hn_))⟩)); have n4_ := Aside0.mk (hb); clear BK157; clear BK161; clear BK168; clear HB; clear HO190; have BK157 := n0_; have BK161 := n1_; have BK168 := n2_; have HO194 := n3_; have HB := n4_; clear n0_ n1_ n2_ n3_ n4_; (try clear hb); (try clear hkp); (try clear ho0); obtain ⟨Ao72, co72, eo72⟩ := Kd.R_slice HO194.out; subst eo72; obtain ⟨i0x72, hi0x72, _, hszx72, _⟩ := info_parts info46; have hcutx72 := cut_from (P := Tryd.prog) 45 46 .i64 Tryd.underlying45 hi0x72 2 hszx72 Ao72 t192.length co72 (wrap64 ((t192.length : Int) - t164)) (proof_revtail.bounds A59.out).1 (proof_revtail.bounds A59.out).2; obtain ⟨AX72, hAX⟩ : ∃ A1 : Option Addr, A1 = (if co72 = ((wrap64 ((t192.length : Int) - t164)) : Int).toNat then Ao72 else (Ao72 : Option Addr).map (·.add (((wrap64 ((t192.length : Int) - t164)) : Int).toNat * 2))) := ⟨_, rfl⟩; rw [← hAX] at hcutx72; have hAX72 := Aside0.mk hAX; clear hAX hi0x72 hszx72) | ((with_reducible refine gate_callee (f := 47) rfl ?_); refine goesL_ (some 91) rfl rfl Tryd.func47 (by kernel_rfl) rfl #[.slice AX72 (t192.length - ((wrap64 ((t192.length : Int) - t164)) : Int).toNat) (co72 - ((wrap64 ((t192.length : Int) - t164)) : Int).toNat)] rfl (by (try simp only [List.map_toArray, List.map_cons, List.map_nil]); first | done | rfl | (simp only [List.length_drop, List.length_take]; rfl)) ?_; (with_reducible refine (proof_revtail.calls k1 (fun k_ => some k_ = (.slice Ao72 t192.length co72 : Value).ownBlock) Ao72 t192.length co72 t192 (wrap64 ((t192.length : Int) - t164)) t195 w _ AX72 hAX72.out ?side1 ?side2 A59.out).mono ?_); (case side1 => repeat (first | (with_reducible first | exact HB.out | apply below_alloc | apply pw_below_drewN | apply below_drew1 | refine below_set ?_ GE157.out | refine below_set ?_ GE161.out | refine below_set ?_ GE168.out) | exact HB.out)); (case side2 => exact Kd.R_tight rfl HO194.out); rintro e w73 ⟨rfl, hy0, hb, hkp⟩; refine ⟨_, rfl, ?_⟩; have n0_ := Aside0.mk (blk_kept (by (with_reducible repeat (first | refine blk_drewN ?_ _ | refine blk_drew ?_ | refine blk_alloc ?_ _)); exact BK157.out) hkp (fun hs_ => (fun e_ => (Kd.R_ne HO194.out BK157.out (by decide)) e_) hs_)); have n1_ := Aside0.mk (blk_kept (by (with_reducible repeat (first | refine blk_drewN ?_ _ | refine blk_drew ?_ | refine blk_alloc ?_ _)); exact BK161.out) hkp (fun hs_ => (fun e_ => (Kd.R_away HO194.out (fun _ hk => hk.1)) e_) hs_)); have n2_ := Aside0.mk (blk_kept (by (with_reducible repeat (first | refine blk_drewN ?_ _ | refine blk_drew ?_ | refine blk_alloc ?_ _)); exact BK168.out) hkp (fun hs_ => (fun e_ => (Kd.R_away HO194.out (fun _ hk => hk.2)) e_) hs_)); have n3_ := Aside0.mk (Kd.R_reok rfl hy0 (fun k_ e_ => HO194.out.1 k_ e_)); have n4_ := Aside0.mk (hb); clear BK157; clear BK161; clear BK168; clear HO194; clear HB; have BK157 := n0_; have BK161 := n1_; have BK168 := n2_; have HO194 := n3_; have HB := n4_; clear n0_ n1_ n2_ n3_ n4_; (try clear hb); (try clear hkp); (try clear hy0); have hcz74_0 : w73.cell? ⟨gb161, 0, none⟩ = some (.int .u64 t159) := (blk_cell BK161.out 0).trans rfl; have hcz74_1 : w73.cell? ⟨gb161, 1, none⟩ = some (.int .u64 t160) := (blk_cell BK161.out 1).trans rfl; have hfz74_0 := blk_frozen BK161.out 0; have hfz74_1 := blk_frozen BK161.out 1) | ((with_reducible refine gate_callee (f := 46) rfl ?_); refine goesL_ (some 99) rfl rfl Tryd.func46 (by kernel_rfl) rfl #[.agg #[.int .u64 t159, .int .u64 t160]] rfl (by (try simp only [List.map_toArray, List.map_cons, List.map_nil]); first | done | rfl | (simp only [List.length_drop, List.length_take]; rfl)) ?_; (with_reducible refine (compact_NodeID_Sibling.calls t159 t160 t196 t197 _ A61.out).mono ?_); rintro e w75 ⟨rfl, hb⟩; refine ⟨_, rfl, ?_⟩; have n0_ := Aside0.mk (Kd.R_below (by (with_reducible repeat (first | apply Kd.R_alloc | apply Kd.R_drewN | apply Kd.R_drew)); exact HO194.out) hb); have n1_ := Aside0.mk (blk_below (g := gb157) (o := .cells #[.slice none 0 0, .int .i64 0, .int .i64 0, .int .u64 0, .int .u64 0] 52 (0, 0)) (by (with_reducible repeat (first | refine blk_drewN ?_ _ | refine blk_drew ?_ | refine blk_alloc ?_ _)); exact BK157.out) hb); have n2_ := Aside0.mk (blk_below (g := gb161) (o := .cells #[.int .u64 t159, .int .u64 t160] 46 (0, 0)) (by (with_reducible repeat (first | refine blk_drewN ?_ _ | refine blk_drew ?_ | refine blk_alloc ?_ _)); exact BK161.out) hb); have n3_ := Aside0.mk (blk_below (g := gb168) (o := .cells #[.int .u64 x169000_1, .int .u64 x169001_1] 46 (0, 0)) (by (with_reducible repeat (first | refine blk_drewN ?_ _ | refine blk_drew ?_ | refine blk_alloc ?_ _)); exact BK168.out) hb); have n4_ := Aside0.mk (below_step (by repeat (first | (with_reducible first | exact HB.out | apply below_alloc | apply pw_below_drewN | apply below_drew1 | refine below_set ?_ GE157.out | refine below_set ?_ GE161.out | refine below_set ?_ GE168.out) | exact HB.out)) hb); clear HO194; clear BK157; clear BK161; clear BK168; clear HB; have HO194 := n0_; have BK157 := n1_; have BK161 := n2_; have BK168 := n3_; have HB := n4_; clear n0_ n1_ n2_ n3_ n4_; (try clear hb); (try clear hb2); (try clear hk); (try clear hi); have hcz76_0 : w75.cell? ⟨gb157, 0, none⟩ = some (.slice none 0 0) := (blk_cell BK157.out 0).trans rfl; have hcz76_1 : w75.cell? ⟨gb157, 1, none⟩ = some (.int .i64 0) := (blk_cell BK157.out 1).trans rfl; have hcz76_2 : w75.cell? ⟨gb157, 2, none⟩ = some (.int .i64 0) := (blk_cell BK157.out 2).trans rfl; have hcz76_3 : w75.cell? ⟨gb157, 3, none⟩ = some (.int .u64 0) := (blk_cell BK157.out 3).trans rfl; have hcz76_4 : w75.cell? ⟨gb157, 4, none⟩ = some (.int .u64 0) := (blk_cell BK157.out 4).trans rfl; have hfz76_0 := blk_frozen BK157.out 0; have hfz76_1 := blk_frozen BK157.out 1; have hfz76_2 := blk_frozen BK157.out 2; have hfz76_3 := blk_frozen BK157.out 3; have hfz76_4 := blk_frozen BK157.out 4))
                    refine bodyPost_ret (results_cell_row rfl _ _ gb157 52 #[.slice Ao72 t192.length co72, .int .i64 0, .int .i64 0, .int .u64 t196, .int .u64 t197] (0, 0) _ rfl (by (with_reducible repeat (first | refine blk_drewN ?_ _ | refine blk_drew ?_ | refine blk_alloc ?_ _)); refine blk_put (cs := #[.slice Ao72 t192.length co72, .int .i64 0, .int .i64 0, .int .u64 t196, .int .u64 0]) ?_ 4 _ rfl; (with_reducible repeat (first | refine blk_drewN ?_ _ | refine blk_drew ?_ | refine blk_alloc ?_ _)); refine blk_put (cs := #[.slice Ao72 t192.length co72, .int .i64 0, .int .i64 0, .int .u64 0, .int .u64 0]) ?_ 3 _ rfl; (with_reducible repeat (first | refine blk_drewN ?_ _ | refine blk_drew ?_ | refine blk_alloc ?_ _)); refine blk_put (cs := #[.slice Ao72 t192.length co72, .int .i64 0, .int .i64 0, .int .u64 0, .int .u64 0]) ?_ 2 _ rfl; (with_reducible repeat (first | refine blk_drewN ?_ _ | refine blk_drew ?_ | refine blk_alloc ?_ _)); refine blk_put (cs := #[.slice Ao72 t192.length co72, .int .i64 0, .int .i64 0, .int .u64 0, .int .u64 0]) ?_ 1 _ rfl; (with_reducible repeat (first | refine blk_drewN ?_ _ | refine blk_drew ?_ | refine blk_alloc ?_ _)); refine blk_put (cs := #[.slice none 0 0, .int .i64 0, .int .i64 0, .int .u64 0, .int .u64 0]) ?_ 0 _ rfl; (with_reducible repeat (first | refine blk_drewN ?_ _ | refine blk_drew ?_ | refine blk_alloc ?_ _)); exact BK157.out) Tryd.underlying52 rfl (by kernel_rfl)) rfl ?_
                    exact ⟨_, by first | rfl | (simp [errW_none, errW_some] <;> rfl) | (simp only [← hji5, ← hji7, ← hji9, ← hji15]; first | rfl | (simp [errW_none, errW_some] <;> rfl)) | (simp [*, errW_none, errW_some] <;> rfl), by (with_reducible repeat (first | apply Kd.R_alloc | apply Kd.R_drewN | apply Kd.R_drew)); exact Kd.R_mono (Kd.R_far (p := ⟨gb157, 4, none⟩) (Kd.R_far (p := ⟨gb157, 3, none⟩) (Kd.R_far (p := ⟨gb157, 2, none⟩) (Kd.R_far (p := ⟨gb157, 1, none⟩) (Kd.R_far (p := ⟨gb157, 0, none⟩) (Kd.R_types HO194.out BK157.out (by decide)) (fun _ hk => hk.2) (.slice Ao72 t192.length co72)) (fun _ hk => hk.2) (.int .i64 0)) (fun _ hk => hk.2) (.int .i64 0)) (fun _ hk => hk.2) (.int .u64 t196)) (fun _ hk => hk.2) (.int .u64 t197)) (fun _ hk => trivial), by repeat (first | (with_reducible first | exact HB.out | apply below_alloc | apply pw_below_drewN | apply below_drew1 | refine below_set ?_ GE157.out | refine below_set ?_ GE161.out | refine below_set ?_ GE168.out) | exact HB.out)⟩
                  · rw [if_neg c60] at H
                    have c60b0 : decide ((t188.length : Int) ≤ (x14_1.length : Int)) = false := decide_eq_false c60
                    have c60b1 : decide (t188.length ≤ x14_1.length) = false := decide_eq_false (fun h => c60 (Int.ofNat_le.mpr h))
                    clear c60
                    replace H := Option.bind_eq_some_iff.mp H
                    obtain ⟨⟨t198, t199⟩, A770, H⟩ := H
                    replace H : (some (t195, (x14_1.length : Int), (t188.length : Int), t198, t199)) = some (r1, r2, r3, r4, r5) := H
                    have A77 := Aside0.mk A770
                    clear A770
                    simp only [Option.some.injEq, Prod.mk.injEq] at H
                    obtain ⟨rfl, rfl, rfl, rfl, rfl⟩ := H
                    have hnb78 := NB168_157.out
                    have hnc78 := NB157_168.out
                    have hnb79 := NB168_161.out
                    have hnc79 := NB161_168.out
                    have hcz80_0 : wr.cell? ⟨gb168, 0, none⟩ = some (.int .u64 x169000_1) := (blk_cell BK168.out 0).trans rfl
                    have hcz80_1 : wr.cell? ⟨gb168, 1, none⟩ = some (.int .u64 x169001_1) := (blk_cell BK168.out 1).trans rfl
                    have hfz80_0 := blk_frozen BK168.out 0
                    have hfz80_1 := blk_frozen BK168.out 1
                    have hnb81 := NB161_157.out
                    have hnc81 := NB157_161.out
                    have hcz82_0 : wr.cell? ⟨gb161, 0, none⟩ = some (.int .u64 t159) := (blk_cell BK161.out 0).trans rfl
                    have hcz82_1 : wr.cell? ⟨gb161, 1, none⟩ = some (.int .u64 t160) := (blk_cell BK161.out 1).trans rfl
                    have hfz82_0 := blk_frozen BK161.out 0
                    have hfz82_1 := blk_frozen BK161.out 1
                    obtain ⟨Ao83, co83, eo83⟩ := Kd.R_slice HO_14.out
                    subst eo83
                    go_wp2_with (first | ((with_reducible refine gate_callee (f := 20) rfl ?_); refine goesL_ (some 72) rfl rfl Tryd.func20 (by kernel_rfl) rfl #[.int .u64 t163, .int .u64 a2, .slice Ao83 x14_1.length co83] rfl (by (try simp only [List.map_toArray, List.map_cons, List.map_nil]); first | done | rfl | (simp only [List.length_drop, List.length_take]; rfl)) ?_; (with_reducible refine (compact_RangeNodes.calls k1 t163 a2 (fun k_ => some k_ = (.slice Ao83 x14_1.length co83 : Value).ownBlock) (.slice Ao83 x14_1.length co83) x14_1 t188 w _ ?side1 ?side2 ?side3 A56.out).mono ?_); (case side1 => repeat (first | (with_reducible first | exact HB.out | apply below_alloc | apply pw_below_drewN | apply below_drew1 | refine below_set ?_ GE157.out | refine below_set ?_ GE161.out | refine below_set ?_ GE168.out) | exact HB.out)); (case side2 => exact Kd.R_tight rfl HO_14.out); (case side3 => exact HG.out); rintro e w84 ⟨v189, rfl, ho0, hb, hkp⟩; refine ⟨_, rfl, ?_⟩; have n0_ := Aside0.mk (blk_kept (by (with_reducible repeat (first | refine blk_drewN ?_ _ | refine blk_drew ?_ | refine blk_alloc ?_ _)); exact BK157.out) hkp (fun hs_ => (fun e_ => (Kd.R_ne HO_14.out BK157.out (by decide)) e_) hs_)); have n1_ := Aside0.mk (blk_kept (by (with_reducible repeat (first | refine blk_drewN ?_ _ | refine blk_drew ?_ | refine blk_alloc ?_ _)); exact BK161.out) hkp (fun hs_ => (fun e_ => (Kd.R_away HO_14.out (fun _ hk => hk.1)) e_) hs_)); have n2_ := Aside0.mk (blk_kept (by (with_reducible repeat (first | refine blk_drewN ?_ _ | refine blk_drew ?_ | refine blk_alloc ?_ _)); exact BK168.out) hkp (fun hs_ => (fun e_ => (Kd.R_away HO_14.out (fun _ hk => hk.2)) e_) hs_)); have n3_ := Aside0.mk (Kd.R_mono (ok' := fun k_ => k_ ≠ gb161 ∧ k_ ≠ gb168) ho0 (fun k_ hk_ => ⟨Or.elim hk_ (fun hs_ => fun e_ => (Kd.R_away HO_14.out (fun _ hk => hk.1)) (by rw [← e_]; exact hs_)) (fun hn_ => (Kd.freshB (g := gb161) (o := .cells #[.int .u64 t159, .int .u64 t160] 46 (0, 0)) (by (with_reducible repeat (first | refine blk_drewN ?_ _ | refine blk_drew ?_ | refine blk_alloc ?_ _)); exact BK161.out) k_ hn_)), Or.elim hk_ (fun hs_ => fun e_ => (Kd.R_away HO_14.out (fun _ hk => hk.2)) (by rw [← e_]; exact hs_)) (fun hn_ => (Kd.freshB (g := gb168) (o := .cells #[.int .u64 x169000_1, .int .u64 x169001_1] 46 (0, 0)) (by (with_reducible repeat (first | refine blk_drewN ?_ _ | refine blk_drew ?_ | refine blk_alloc ?_ _)); exact BK168.out) k_ hn_))⟩)); have n4_ := Aside0.mk (hb); clear BK157; clear BK161; clear BK168; clear HB; clear HO_14; have BK157 := n0_; have BK161 := n1_; have BK168 := n2_; have HO190 := n3_; have HB := n4_; clear n0_ n1_ n2_ n3_ n4_; (try clear hb); (try clear hkp); (try clear ho0); obtain ⟨Ao85, co85, eo85⟩ := Kd.R_slice HO190.out; subst eo85; obtain ⟨i0x85, hi0x85, _, hszx85, _⟩ := info_parts info46; have hcutx85 := cut_from (P := Tryd.prog) 45 46 .i64 Tryd.underlying45 hi0x85 2 hszx85 Ao85 t188.length co85 (wrap64 ((t188.length : Int) - t165)) (proof_revtail.bounds A57.out).1 (proof_revtail.bounds A57.out).2; obtain ⟨AX85, hAX⟩ : ∃ A1 : Option Addr, A1 = (if co85 = ((wrap64 ((t188.length : Int) - t165)) : Int).toNat then Ao85 else (Ao85 : Option Addr).map (·.add (((wrap64 ((t188.length : Int) - t165)) : Int).toNat * 2))) := ⟨_, rfl⟩; rw [← hAX] at hcutx85; have hAX85 := Aside0.mk hAX; clear hAX hi0x85 hszx85) | ((with_reducible refine gate_callee (f := 47) rfl ?_); refine goesL_ (some 79) rfl rfl Tryd.func47 (by kernel_rfl) rfl #[.slice AX85 (t188.length - ((wrap64 ((t188.length : Int) - t165)) : Int).toNat) (co85 - ((wrap64 ((t188.length : Int) - t165)) : Int).toNat)] rfl (by (try simp only [List.map_toArray, List.map_cons, List.map_nil]); first | done | rfl | (simp only [List.length_drop, List.length_take]; rfl)) ?_; (with_reducible refine (proof_revtail.calls k1 (fun k_ => some k_ = (.slice Ao85 t188.length co85 : Value).ownBlock) Ao85 t188.length co85 t188 (wrap64 ((t188.length : Int) - t165)) t191 w _ AX85 hAX85.out ?side1 ?side2 A57.out).mono ?_); (case side1 => repeat (first | (with_reducible first | exact HB.out | apply below_alloc | apply pw_below_drewN | apply below_drew1 | refine below_set ?_ GE157.out | refine below_set ?_ GE161.out | refine below_set ?_ GE168.out) | exact HB.out)); (case side2 => exact Kd.R_tight rfl HO190.out); rintro e w86 ⟨rfl, hy0, hb, hkp⟩; refine ⟨_, rfl, ?_⟩; have n0_ := Aside0.mk (blk_kept (by (with_reducible repeat (first | refine blk_drewN ?_ _ | refine blk_drew ?_ | refine blk_alloc ?_ _)); exact BK157.out) hkp (fun hs_ => (fun e_ => (Kd.R_ne HO190.out BK157.out (by decide)) e_) hs_)); have n1_ := Aside0.mk (blk_kept (by (with_reducible repeat (first | refine blk_drewN ?_ _ | refine blk_drew ?_ | refine blk_alloc ?_ _)); exact BK161.out) hkp (fun hs_ => (fun e_ => (Kd.R_away HO190.out (fun _ hk => hk.1)) e_) hs_)); have n2_ := Aside0.mk (blk_kept (by (with_reducible repeat (first | refine blk_drewN ?_ _ | refine blk_drew ?_ | refine blk_alloc ?_ _)); exact BK168.out) hkp (fun hs_ => (fun e_ => (Kd.R_away HO190.out (fun _ hk => hk.2)) e_) hs_)); have n3_ := Aside0.mk (Kd.R_reok rfl hy0 (fun k_ e_ => HO190.out.1 k_ e_)); have n4_ := Aside0.mk (hb); clear BK157; clear BK161; clear BK168; clear HO190; clear HB; have BK157 := n0_; have BK161 := n1_; have BK168 := n2_; have HO190 := n3_; have HB := n4_; clear n0_ n1_ n2_ n3_ n4_; (try clear hb); (try clear hkp); (try clear hy0)) | ((with_reducible refine gate_callee (f := 20) rfl ?_); refine goesL_ (some 84) rfl rfl Tryd.func20 (by kernel_rfl) rfl #[.int .u64 0, .int .u64 t162, .slice Ao85 t188.length co85] rfl (by (try simp only [List.map_toArray, List.map_cons, List.map_nil]); first | done | rfl | (simp only [List.length_drop, List.length_take]; rfl)) ?_; (with_reducible refine (compact_RangeNodes.calls k1 0 t162 (fun k_ => some k_ = (.slice Ao85 t188.length co85 : Value).ownBlock) (.slice Ao85 t188.length co85) t191 t192 w _ ?side1 ?side2 ?side3 A58.out).mono ?_); (case side1 => repeat (first | (with_reducible first | exact HB.out | apply below_alloc | apply pw_below_drewN | apply below_drew1 | refine below_set ?_ GE157.out | refine below_set ?_ GE161.out | refine below_set ?_ GE168.out) | exact HB.out)); (case side2 => exact Kd.R_tight rfl HO190.out); (case side3 => exact HG.out); rintro e w87 ⟨v193, rfl, ho0, hb, hkp⟩; refine ⟨_, rfl, ?_⟩; have n0_ := Aside0.mk (blk_kept (by (with_reducible repeat (first | refine blk_drewN ?_ _ | refine blk_drew ?_ | refine blk_alloc ?_ _)); exact BK157.out) hkp (fun hs_ => (fun e_ => (Kd.R_ne HO190.out BK157.out (by decide)) e_) hs_)); have n1_ := Aside0.mk (blk_kept (by (with_reducible repeat (first | refine blk_drewN ?_ _ | refine blk_drew ?_ | refine blk_alloc ?_ _)); exact BK161.out) hkp (fun hs_ => (fun e_ => (Kd.R_away HO190.out (fun _ hk => hk.1)) e_) hs_)); have n2_ := Aside0.mk (blk_kept (by (with_reducible repeat (first | refine blk_drewN ?_ _ | refine blk_drew ?_ | refine blk_alloc ?_ _)); exact BK168.out) hkp (fun hs_ => (fun e_ => (Kd.R_away HO190.out (fun _ hk => hk.2)) e_) hs_)); have n3_ := Aside0.mk (Kd.R_mono (ok' := fun k_ => k_ ≠ gb161 ∧ k_ ≠ gb168) ho0 (fun k_ hk_ => ⟨Or.elim hk_ (fun hs_ => fun e_ => (Kd.R_away HO190.out (fun _ hk => hk.1)) (by rw [← e_]; exact hs_)) (fun hn_ => (Kd.freshB (g := gb161) (o := .cells #[.int .u64 t159, .int .u64 t160] 46 (0, 0)) (by (with_reducible repeat (first | refine blk_drewN ?_ _ | refine blk_drew ?_ | refine blk_alloc ?_ _)); exact BK161.out) k_ hn_)), Or.elim hk_ (fun hs_ => fun e_ => (Kd.R_away HO190.out (fun _ hk => hk.2)) (by rw [← e_]; exact hs_)) (fun hn_ => (Kd.freshB (g := gb168) (o := .cells #[.int .u64 x169000_1, .int .u64 x169001_1] 46 (0, 0)) (by (with_reducible repeat (first | refine blk_drewN ?_ _ | refine blk_drew ?_ | refine blk_alloc ?_ _)); exact BK168.out) k_ hn_))⟩)); have n4_ := Aside0.mk (hb); clear BK157; clear BK161; clear BK168; clear HB; clear HO190; have BK157 := n0_; have BK161 := n1_; have BK168 := n2_; have HO194 := n3_; have HB := n4_; clear n0_ n1_ n2_ n3_ n4_; (try clear hb); (try clear hkp); (try clear ho0); obtain ⟨Ao88, co88, eo88⟩ := Kd.R_slice HO194.out; subst eo88; obtain ⟨i0x88, hi0x88, _, hszx88, _⟩ := info_parts info46; have hcutx88 := cut_from (P := Tryd.prog) 45 46 .i64 Tryd.underlying45 hi0x88 2 hszx88 Ao88 t192.length co88 (wrap64 ((t192.length : Int) - t164)) (proof_revtail.bounds A59.out).1 (proof_revtail.bounds A59.out).2; obtain ⟨AX88, hAX⟩ : ∃ A1 : Option Addr, A1 = (if co88 = ((wrap64 ((t192.length : Int) - t164)) : Int).toNat then Ao88 else (Ao88 : Option Addr).map (·.add (((wrap64 ((t192.length : Int) - t164)) : Int).toNat * 2))) := ⟨_, rfl⟩; rw [← hAX] at hcutx88; have hAX88 := Aside0.mk hAX; clear hAX hi0x88 hszx88) | ((with_reducible refine gate_callee (f := 47) rfl ?_); refine goesL_ (some 91) rfl rfl Tryd.func47 (by kernel_rfl) rfl #[.slice AX88 (t192.length - ((wrap64 ((t192.length : Int) - t164)) : Int).toNat) (co88 - ((wrap64 ((t192.length : Int) - t164)) : Int).toNat)] rfl (by (try simp only [List.map_toArray, List.map_cons, List.map_nil]); first | done | rfl | (simp only [List.length_drop, List.length_take]; rfl)) ?_; (with_reducible refine (proof_revtail.calls k1 (fun k_ => some k_ = (.slice Ao88 t192.length co88 : Value).ownBlock) Ao88 t192.length co88 t192 (wrap64 ((t192.length : Int) - t164)) t195 w _ AX88 hAX88.out ?side1 ?side2 A59.out).mono ?_); (case side1 => repeat (first | (with_reducible first | exact HB.out | apply below_alloc | apply pw_below_drewN | apply below_drew1 | refine below_set ?_ GE157.out | refine below_set ?_ GE161.out | refine below_set ?_ GE168.out) | exact HB.out)); (case side2 => exact Kd.R_tight rfl HO194.out); rintro e w89 ⟨rfl, hy0, hb, hkp⟩; refine ⟨_, rfl, ?_⟩; have n0_ := Aside0.mk (blk_kept (by (with_reducible repeat (first | refine blk_drewN ?_ _ | refine blk_drew ?_ | refine blk_alloc ?_ _)); exact BK157.out) hkp (fun hs_ => (fun e_ => (Kd.R_ne HO194.out BK157.out (by decide)) e_) hs_)); have n1_ := Aside0.mk (blk_kept (by (with_reducible repeat (first | refine blk_drewN ?_ _ | refine blk_drew ?_ | refine blk_alloc ?_ _)); exact BK161.out) hkp (fun hs_ => (fun e_ => (Kd.R_away HO194.out (fun _ hk => hk.1)) e_) hs_)); have n2_ := Aside0.mk (blk_kept (by (with_reducible repeat (first | refine blk_drewN ?_ _ | refine blk_drew ?_ | refine blk_alloc ?_ _)); exact BK168.out) hkp (fun hs_ => (fun e_ => (Kd.R_away HO194.out (fun _ hk => hk.2)) e_) hs_)); have n3_ := Aside0.mk (Kd.R_reok rfl hy0 (fun k_ e_ => HO194.out.1 k_ e_)); have n4_ := Aside0.mk (hb); clear BK157; clear BK161; clear BK168; clear HO194; clear HB; have BK157 := n0_; have BK161 := n1_; have BK168 := n2_; have HO194 := n3_; have HB := n4_; clear n0_ n1_ n2_ n3_ n4_; (try clear hb); (try clear hkp); (try clear hy0); have hcz90_0 : w89.cell? ⟨gb161, 0, none⟩ = some (.int .u64 t159) := (blk_cell BK161.out 0).trans rfl; have hcz90_1 : w89.cell? ⟨gb161, 1, none⟩ = some (.int .u64 t160) := (blk_cell BK161.out 1).trans rfl; have hfz90_0 := blk_frozen BK161.out 0; have hfz90_1 := blk_frozen BK161.out 1) | ((with_reducible refine gate_callee (f := 46) rfl ?_); refine goesL_ (some 99) rfl rfl Tryd.func46 (by kernel_rfl) rfl #[.agg #[.int .u64 t159, .int .u64 t160]] rfl (by (try simp only [List.map_toArray, List.map_cons, List.map_nil]); first | done | rfl | (simp only [List.length_drop, List.length_take]; rfl)) ?_; (with_reducible refine (compact_NodeID_Sibling.calls t159 t160 t198 t199 _ A77.out).mono ?_); rintro e w91 ⟨rfl, hb⟩; refine ⟨_, rfl, ?_⟩; have n0_ := Aside0.mk (Kd.R_below (by (with_reducible repeat (first | apply Kd.R_alloc | apply Kd.R_drewN | apply Kd.R_drew)); exact HO194.out) hb); have n1_ := Aside0.mk (blk_below (g := gb157) (o := .cells #[.slice none 0 0, .int .i64 0, .int .i64 0, .int .u64 0, .int .u64 0] 52 (0, 0)) (by (with_reducible repeat (first | refine blk_drewN ?_ _ | refine blk_drew ?_ | refine blk_alloc ?_ _)); exact BK157.out) hb); have n2_ := Aside0.mk (blk_below (g := gb161) (o := .cells #[.int .u64 t159, .int .u64 t160] 46 (0, 0)) (by (with_reducible repeat (first | refine blk_drewN ?_ _ | refine blk_drew ?_ | refine blk_alloc ?_ _)); exact BK161.out) hb); have n3_ := Aside0.mk (blk_below (g := gb168) (o := .cells #[.int .u64 x169000_1, .int .u64 x169001_1] 46 (0, 0)) (by (with_reducible repeat (first | refine blk_drewN ?_ _ | refine blk_drew ?_ | refine blk_alloc ?_ _)); exact BK168.out) hb); have n4_ := Aside0.mk (below_step (by repeat (first | (with_reducible first | exact HB.out | apply below_alloc | apply pw_below_drewN | apply below_drew1 | refine below_set ?_ GE157.out | refine below_set ?_ GE161.out | refine below_set ?_ GE168.out) | exact HB.out)) hb); clear HO194; clear BK157; clear BK161; clear BK168; clear HB; have HO194 := n0_; have BK157 := n1_; have BK161 := n2_; have BK168 := n3_; have HB := n4_; clear n0_ n1_ n2_ n3_ n4_; (try clear hb); (try clear hb2); (try clear hk); (try clear hi); have hcz92_0 : w91.cell? ⟨gb157, 0, none⟩ = some (.slice none 0 0) := (blk_cell BK157.out 0).trans rfl; have hcz92_1 : w91.cell? ⟨gb157, 1, none⟩ = some (.int .i64 0) := (blk_cell BK157.out 1).trans rfl; have hcz92_2 : w91.cell? ⟨gb157, 2, none⟩ = some (.int .i64 0) := (blk_cell BK157.out 2).trans rfl; have hcz92_3 : w91.cell? ⟨gb157, 3, none⟩ = some (.int .u64 0) := (blk_cell BK157.out 3).trans rfl; have hcz92_4 : w91.cell? ⟨gb157, 4, none⟩ = some (.int .u64 0) := (blk_cell BK157.out 4).trans rfl; have hfz92_0 := blk_frozen BK157.out 0; have hfz92_1 := blk_frozen BK157.out 1; have hfz92_2 := blk_frozen BK157.out 2; have hfz92_3 := blk_frozen BK157.out 3; have hfz92_4 := blk_frozen BK157.out 4))
                    refine bodyPost_ret (results_cell_row rfl _ _ gb157 52 #[.slice Ao88 t192.length co88, .int .i64 (x14_1.length : Int), .int .i64 (t188.length : Int), .int .u64 t198, .int .u64 t199] (0, 0) _ rfl (by (with_reducible repeat (first | refine blk_drewN ?_ _ | refine blk_drew ?_ | refine blk_alloc ?_ _)); refine blk_put (cs := #[.slice Ao88 t192.length co88, .int .i64 (x14_1.length : Int), .int .i64 (t188.length : Int), .int .u64 t198, .int .u64 0]) ?_ 4 _ rfl; (with_reducible repeat (first | refine blk_drewN ?_ _ | refine blk_drew ?_ | refine blk_alloc ?_ _)); refine blk_put (cs := #[.slice Ao88 t192.length co88, .int .i64 (x14_1.length : Int), .int .i64 (t188.length : Int), .int .u64 0, .int .u64 0]) ?_ 3 _ rfl; (with_reducible repeat (first | refine blk_drewN ?_ _ | refine blk_drew ?_ | refine blk_alloc ?_ _)); refine blk_put (cs := #[.slice Ao88 t192.length co88, .int .i64 (x14_1.length : Int), .int .i64 0, .int .u64 0, .int .u64 0]) ?_ 2 _ rfl; (with_reducible repeat (first | refine blk_drewN ?_ _ | refine blk_drew ?_ | refine blk_alloc ?_ _)); refine blk_put (cs := #[.slice Ao88 t192.length co88, .int .i64 0, .int .i64 0, .int .u64 0, .int .u64 0]) ?_ 1 _ rfl; (with_reducible repeat (first | refine blk_drewN ?_ _ | refine blk_drew ?_ | refine blk_alloc ?_ _)); refine blk_put (cs := #[.slice none 0 0, .int .i64 0, .int .i64 0, .int .u64 0, .int .u64 0]) ?_ 0 _ rfl; (with_reducible repeat (first | refine blk_drewN ?_ _ | refine blk_drew ?_ | refine blk_alloc ?_ _)); exact BK157.out) Tryd.underlying52 rfl (by kernel_rfl)) rfl ?_
                    exact ⟨_, by first | rfl | (simp [errW_none, errW_some] <;> rfl) | (simp only [← hji5, ← hji7, ← hji9, ← hji15]; first | rfl | (simp [errW_none, errW_some] <;> rfl)) | (simp [*, errW_none, errW_some] <;> rfl), by (with_reducible repeat (first | apply Kd.R_alloc | apply Kd.R_drewN | apply Kd.R_drew)); exact Kd.R_mono (Kd.R_far (p := ⟨gb157, 4, none⟩) (Kd.R_far (p := ⟨gb157, 3, none⟩) (Kd.R_far (p := ⟨gb157, 2, none⟩) (Kd.R_far (p := ⟨gb157, 1, none⟩) (Kd.R_far (p := ⟨gb157, 0, none⟩) (Kd.R_types HO194.out BK157.out (by decide)) (fun _ hk => hk.2) (.slice Ao88 t192.length co88)) (fun _ hk => hk.2) (.int .i64 (x14_1.length : Int))) (fun _ hk => hk.2) (.int .i64 (t188.length : Int))) (fun _ hk => hk.2) (.int .u64 t198)) (fun _ hk => hk.2) (.int .u64 t199)) (fun _ hk => trivial), by repeat (first | (with_reducible first | exact HB.out | apply below_alloc | apply pw_below_drewN | apply below_drew1 | refine below_set ?_ GE157.out | refine below_set ?_ GE161.out | refine below_set ?_ GE168.out) | exact HB.out)⟩
          · rw [if_neg c18] at H
            exact absurd H (by simp)
        · rw [if_neg c17] at H
          exact absurd H (by simp)
      · rw [if_neg c16] at H
        exact absurd H (by simp)
    · rw [if_neg c8] at H
      exact absurd H (by simp)
  · rw [if_neg c4] at H
    exact absurd H (by simp)

/-! ### proof_DoorNodes: function 23 -/
def proof_DoorNodes.f (k : Nat) (a0 : Int) (a1 : Int) (a2 : Int) : Option ((List (S46)) × Int × Int × Int × Int) := (proof_nodes.f k a0 a1 a2).bind fun bt201 => (some (bt201.1, bt201.2.1, bt201.2.2.1, bt201.2.2.2.1, bt201.2.2.2.2))
theorem proof_DoorNodes.mono : ∀ a0 a1 a2 k, LeO (proof_DoorNodes.f k a0 a1 a2) (proof_DoorNodes.f (k + 1) a0 a1 a2) := by
  intro a0 a1 a2 k
  unfold proof_DoorNodes.f
  repeat' first
      | (with_reducible exact proof_nodes.mono _ _ _ _)
      | (with_reducible exact LeO.refl _)
      | (with_reducible exact LeO.none _)
      | (with_reducible refine LeO.ite ?_ ?_)
      | (with_reducible refine LeO.bind ?_ (fun _ => ?_))
      | exact proof_nodes.mono _ _ _ _
      | exact LeO.none _
      | refine LeO.ite ?_ ?_
      | refine LeO.bind ?_ (fun _ => ?_)
set_option maxHeartbeats 8000000 in
set_option maxRecDepth 100000 in
theorem proof_DoorNodes.calls (k : Nat) (a0 : Int) (a1 : Int) (a2 : Int) (r1 : List (S46)) (r2 : Int) (r3 : Int) (r4 : Int) (r5 : Int) (w : World) (HG_ : Glob w) (h : proof_DoorNodes.f k a0 a1 a2 = some (r1, r2, r3, r4, r5)) :
    Calls Tryd.prog 23 #[.int .u64 a0, .int .u64 a1, .int .u64 a2] w fun e w' => ∃ v0_ : Value, e = .returned (.agg #[v0_, .int .i64 r2, .int .i64 r3, .int .u64 r4, .int .u64 r5]) ∧ Kd.R k46 46 w' w.heap.size (fun _ => True) v0_ r1 ∧ Below w.heap.size w w' := by
  have hu52 := Tryd.underlying52
  have HG := Aside0.mk HG_
  clear HG_
  have HB := Aside0.mk (Below.refl w.heap.size w)
  have H : ((proof_nodes.f k a0 a1 a2).bind fun bt201 => (some (bt201.1, bt201.2.1, bt201.2.2.1, bt201.2.2.2.1, bt201.2.2.2.2))) = some (r1, r2, r3, r4, r5) := h
  clear h
  replace H := Option.bind_eq_some_iff.mp H
  obtain ⟨⟨t201, t204, t205, t206, t207⟩, A40, H⟩ := H
  replace H : (some (t201, t204, t205, t206, t207)) = some (r1, r2, r3, r4, r5) := H
  have A4 := Aside0.mk A40
  clear A40
  simp only [Option.some.injEq, Prod.mk.injEq] at H
  obtain ⟨rfl, rfl, rfl, rfl, rfl⟩ := H
  go_enter Tryd.func23, Tryd.ntmps23
  go_wp2_with (first | ((with_reducible refine gate_dst (N := 6) rfl ?_); refine box_event ?hg (N := 6) ?hd (cs := #[.slice none 0 0, .int .i64 0, .int .i64 0, .int .u64 0, .int .u64 0]) (t := 52) ?hr ?_; (case hd => rfl); (case hg => rfl); (case hr => first | (go_simp; done) | (go_simp; rfl)); intro gb200 hg w5 hbox hb; have n0_ := Aside0.mk (below_step (by repeat (first | (with_reducible first | exact HB.out | apply below_alloc | apply pw_below_drewN | apply below_drew1) | exact HB.out)) hb); have n1_ := Aside0.mk (hbox); have n2_ := Aside0.mk ((by rw [hg]; exact (below_size (by repeat (first | (with_reducible first | exact HB.out | apply below_alloc | apply pw_below_drewN | apply below_drew1) | exact HB.out))) : w.heap.size ≤ gb200)); have n3_ := Aside0.mk ((by rw [hg]; exact (below_size (by repeat (first | (with_reducible first | exact HB.out | apply below_alloc | apply pw_below_drewN | apply below_drew1) | exact HB.out))) : w.heap.size ≤ gb200)); clear HB; have HB := n0_; have BK200 := n1_; have GW200 := n2_; have GE200 := n3_; clear n0_ n1_ n2_ n3_; clear hb hbox hg) | ((with_reducible refine gate_callee (f := 39) rfl ?_); refine goesL_ (some 10) rfl rfl Tryd.func39 (by kernel_rfl) rfl #[.int .u64 a0, .int .u64 a1, .int .u64 a2] rfl (by (try simp only [List.map_toArray, List.map_cons, List.map_nil]); first | done | rfl | (simp only [List.length_drop, List.length_take]; rfl)) ?_; (with_reducible refine (proof_nodes.calls k a0 a1 a2 t201 t204 t205 t206 t207 _ ?side1 A4.out).mono ?_); (case side1 => first | exact HG.out | exact Glob.drewN HG.out _ | exact Glob.below HG.out (by repeat (first | (with_reducible first | exact HB.out | apply below_alloc | apply pw_below_drewN | apply below_drew1 | refine below_set ?_ GE200.out) | exact HB.out))); rintro e w6 ⟨v202, rfl, ho0, hb⟩; refine ⟨_, rfl, ?_⟩; have n0_ := Aside0.mk (Kd.R_lower ho0 (below_size (by repeat (first | (with_reducible first | exact HB.out | apply below_alloc | apply pw_below_drewN | apply below_drew1 | refine below_set ?_ GE200.out) | exact HB.out)))); have n1_ := Aside0.mk (blk_below (g := gb200) (o := .cells #[.slice none 0 0, .int .i64 0, .int .i64 0, .int .u64 0, .int .u64 0] 52 (0, 0)) (by (with_reducible repeat (first | refine blk_drewN ?_ _ | refine blk_drew ?_ | refine blk_alloc ?_ _)); exact BK200.out) hb); have n2_ := Aside0.mk (below_step (by repeat (first | (with_reducible first | exact HB.out | apply below_alloc | apply pw_below_drewN | apply below_drew1 | refine below_set ?_ GE200.out) | exact HB.out)) hb); clear BK200; clear HB; have HO203 := n0_; have BK200 := n1_; have HB := n2_; clear n0_ n1_ n2_; (try clear hb); (try clear hb2); (try clear hk); (try clear hi); (try clear ho0); obtain ⟨Ao7, co7, eo7⟩ := Kd.R_slice HO203.out; subst eo7; have hcz8_0 : w6.cell? ⟨gb200, 0, none⟩ = some (.slice none 0 0) := (blk_cell BK200.out 0).trans rfl; have hcz8_1 : w6.cell? ⟨gb200, 1, none⟩ = some (.int .i64 0) := (blk_cell BK200.out 1).trans rfl; have hcz8_2 : w6.cell? ⟨gb200, 2, none⟩ = some (.int .i64 0) := (blk_cell BK200.out 2).trans rfl; have hcz8_3 : w6.cell? ⟨gb200, 3, none⟩ = some (.int .u64 0) := (blk_cell BK200.out 3).trans rfl; have hcz8_4 : w6.cell? ⟨gb200, 4, none⟩ = some (.int .u64 0) := (blk_cell BK200.out 4).trans rfl; have hfz8_0 := blk_frozen BK200.out 0; have hfz8_1 := blk_frozen BK200.out 1; have hfz8_2 := blk_frozen BK200.out 2; have hfz8_3 := blk_frozen BK200.out 3; have hfz8_4 := blk_frozen BK200.out 4))
  refine bodyPost_ret (results_cell_row rfl _ _ gb200 52 #[.slice Ao7 t201.length co7, .int .i64 t204, .int .i64 t205, .int .u64 t206, .int .u64 t207] (0, 0) _ rfl (by (with_reducible repeat (first | refine blk_drewN ?_ _ | refine blk_drew ?_ | refine blk_alloc ?_ _)); refine blk_put (cs := #[.slice Ao7 t201.length co7, .int .i64 t204, .int .i64 t205, .int .u64 t206, .int .u64 0]) ?_ 4 _ rfl; (with_reducible repeat (first | refine blk_drewN ?_ _ | refine blk_drew ?_ | refine blk_alloc ?_ _)); refine blk_put (cs := #[.slice Ao7 t201.length co7, .int .i64 t204, .int .i64 t205, .int .u64 0, .int .u64 0]) ?_ 3 _ rfl; (with_reducible repeat (first | refine blk_drewN ?_ _ | refine blk_drew ?_ | refine blk_alloc ?_ _)); refine blk_put (cs := #[.slice Ao7 t201.length co7, .int .i64 t204, .int .i64 0, .int .u64 0, .int .u64 0]) ?_ 2 _ rfl; (with_reducible repeat (first | refine blk_drewN ?_ _ | refine blk_drew ?_ | refine blk_alloc ?_ _)); refine blk_put (cs := #[.slice Ao7 t201.length co7, .int .i64 0, .int .i64 0, .int .u64 0, .int .u64 0]) ?_ 1 _ rfl; (with_reducible repeat (first | refine blk_drewN ?_ _ | refine blk_drew ?_ | refine blk_alloc ?_ _)); refine blk_put (cs := #[.slice none 0 0, .int .i64 0, .int .i64 0, .int .u64 0, .int .u64 0]) ?_ 0 _ rfl; (with_reducible repeat (first | refine blk_drewN ?_ _ | refine blk_drew ?_ | refine blk_alloc ?_ _)); exact BK200.out) Tryd.underlying52 rfl (by kernel_rfl)) rfl ?_
  exact ⟨_, by first | rfl | (simp [errW_none, errW_some] <;> rfl) | (simp [*, errW_none, errW_some] <;> rfl), by (with_reducible repeat (first | apply Kd.R_alloc | apply Kd.R_drewN | apply Kd.R_drew)); exact Kd.R_mono (Kd.R_far (p := ⟨gb200, 4, none⟩) (Kd.R_far (p := ⟨gb200, 3, none⟩) (Kd.R_far (p := ⟨gb200, 2, none⟩) (Kd.R_far (p := ⟨gb200, 1, none⟩) (Kd.R_far (p := ⟨gb200, 0, none⟩) (Kd.R_types HO203.out BK200.out (by decide)) (fun _ hk => hk.2) (.slice Ao7 t201.length co7)) (fun _ hk => hk.2) (.int .i64 t204)) (fun _ hk => hk.2) (.int .i64 t205)) (fun _ hk => hk.2) (.int .u64 t206)) (fun _ hk => hk.2) (.int .u64 t207)) (fun _ hk => trivial), by repeat (first | (with_reducible first | exact HB.out | apply below_alloc | apply pw_below_drewN | apply below_drew1 | refine below_set ?_ GE200.out) | exact HB.out)⟩

/-! ### impl_ProofNodes: function 12 -/
def impl_ProofNodes.j0 : Nat → Int → Int → Int → Bool → Option ((List (S27)) × Int × Int × Int × Int)
  | 0, _, _, _, _ => none
  | k + 1, x0, x1, x2, x15 => if x15 = true then (some (([] : List (S27)), 0, 0, 0, 0)) else ((proof_DoorNodes.f k x0 x1 x2).bind fun bt209 => ((impl_fromProof.f k bt209.1 bt209.2.1 bt209.2.2.1 bt209.2.2.2.1 bt209.2.2.2.2).bind fun bt216 => (some (bt216.1, bt216.2.1, bt216.2.2.1, bt216.2.2.2.1, bt216.2.2.2.2))))
def impl_ProofNodes.f (k : Nat) (a0 : Int) (a1 : Int) (a2 : Int) : Option ((List (S27)) × Int × Int × Int × Int) := if a1 > 63 then (impl_ProofNodes.j0 k a0 a1 a2 true) else (if 0 ≤ a1 then (impl_ProofNodes.j0 k a0 a1 a2 (decide (a0 ≥ (shr .u64 a2 a1)))) else (none))
theorem impl_ProofNodes.mono_l : ∀ k, (∀ y0 y1 y2 y3, LeO (impl_ProofNodes.j0 k y0 y1 y2 y3) (impl_ProofNodes.j0 (k + 1) y0 y1 y2 y3))
  | 0 => fun _ _ _ _ r h => by simp [impl_ProofNodes.j0] at h
  | k + 1 => by
    have ih0 := impl_ProofNodes.mono_l k
    · intro y0 y1 y2 y3
      unfold impl_ProofNodes.j0
      repeat' first
      | (with_reducible exact ih0 _ _ _ _)
      | (with_reducible exact impl_fromProof.mono _ _ _ _ _ _)
      | (with_reducible exact proof_DoorNodes.mono _ _ _ _)
      | (with_reducible exact LeO.refl _)
      | (with_reducible exact LeO.none _)
      | (with_reducible refine LeO.ite ?_ ?_)
      | (with_reducible refine LeO.bind ?_ (fun _ => ?_))
      | exact ih0 _ _ _ _
      | exact impl_fromProof.mono _ _ _ _ _ _
      | exact proof_DoorNodes.mono _ _ _ _
      | exact LeO.none _
      | refine LeO.ite ?_ ?_
      | refine LeO.bind ?_ (fun _ => ?_)
theorem impl_ProofNodes.mono : ∀ a0 a1 a2 k, LeO (impl_ProofNodes.f k a0 a1 a2) (impl_ProofNodes.f (k + 1) a0 a1 a2) := by
  intro a0 a1 a2 k
  have ih0 := impl_ProofNodes.mono_l k
  unfold impl_ProofNodes.f
  repeat' first
      | (with_reducible exact ih0 _ _ _ _)
      | (with_reducible exact impl_fromProof.mono _ _ _ _ _ _)
      | (with_reducible exact proof_DoorNodes.mono _ _ _ _)
      | (with_reducible exact LeO.refl _)
      | (with_reducible exact LeO.none _)
      | (with_reducible refine LeO.ite ?_ ?_)
      | (with_reducible refine LeO.bind ?_ (fun _ => ?_))
      | exact ih0 _ _ _ _
      | exact impl_fromProof.mono _ _ _ _ _ _
      | exact proof_DoorNodes.mono _ _ _ _
      | exact LeO.none _
      | refine LeO.ite ?_ ?_
      | refine LeO.bind ?_ (fun _ => ?_)
set_option maxHeartbeats 8000000 in
set_option maxRecDepth 100000 in
theorem impl_ProofNodes.calls (k : Nat) (a0 : Int) (a1 : Int) (a2 : Int) (r1 : List (S27)) (r2 : Int) (r3 : Int) (r4 : Int) (r5 : Int) (w : World) (HG_ : Glob w) (h : impl_ProofNodes.f k a0 a1 a2 = some (r1, r2, r3, r4, r5)) :
    Calls Tryd.prog 12 #[.int .u64 a0, .int .u64 a1, .int .u64 a2] w fun e w' => ∃ v0_ : Value, e = .returned (.agg #[v0_, .int .u64 r2, .int .u64 r3, .int .i64 r4, .int .i64 r5]) ∧ Kd.R k27 27 w' w.heap.size (fun _ => True) v0_ r1 ∧ Below w.heap.size w w' := by
  have hu36 := Tryd.underlying36
  have HG := Aside0.mk HG_
  clear HG_
  have HB := Aside0.mk (Below.refl w.heap.size w)
  have H : (if a1 > 63 then (impl_ProofNodes.j0 k a0 a1 a2 true) else (if 0 ≤ a1 then (impl_ProofNodes.j0 k a0 a1 a2 (decide (a0 ≥ (shr .u64 a2 a1)))) else (none))) = some (r1, r2, r3, r4, r5) := h
  clear h
  have HC4 := Aside0.mk H
  clear H
  go_enter Tryd.func12, Tryd.ntmps12
  go_upto_region 1 with (first | ((with_reducible refine gate_dst (N := 6) rfl ?_); refine box_event ?hg (N := 6) ?hd (cs := #[.slice none 0 0, .int .u64 0, .int .u64 0, .int .i64 0, .int .i64 0]) (t := 36) ?hr ?_; (case hd => rfl); (case hg => rfl); (case hr => first | (go_simp; done) | (go_simp; rfl)); intro gb208 hg w5 hbox hb; have n0_ := Aside0.mk (below_step (by repeat (first | (with_reducible first | exact HB.out | apply below_alloc | apply pw_below_drewN | apply below_drew1) | exact HB.out)) hb); have n1_ := Aside0.mk (hbox); have n2_ := Aside0.mk ((by rw [hg]; exact (below_size (by repeat (first | (with_reducible first | exact HB.out | apply below_alloc | apply pw_below_drewN | apply below_drew1) | exact HB.out))) : w.heap.size ≤ gb208)); have n3_ := Aside0.mk ((by rw [hg]; exact (below_size (by repeat (first | (with_reducible first | exact HB.out | apply below_alloc | apply pw_below_drewN | apply below_drew1) | exact HB.out))) : w.heap.size ≤ gb208)); clear HB; have HB := n0_; have BK208 := n1_; have GW208 := n2_; have GE208 := n3_; clear n0_ n1_ n2_ n3_; clear hb hbox hg))
  (try simp only [Act.put, List.setIfInBounds_toArray, List.set_cons_zero, List.set_cons_succ])
  go_cut [15] (fun v15 wc => ∃ (kq : Nat) (x15_3 : Bool), v15 = .bool x15_3 ∧ Aside0 (impl_ProofNodes.j0 kq a0 a1 a2 x15_3 = some (r1, r2, r3, r4, r5)) ∧ Aside0 (kq ≤ k) ∧ Aside0 (wc.heap[gb208]? = some (.cells #[(.slice none 0 0), .int .u64 0, .int .u64 0, .int .i64 0, .int .i64 0] 36 (0, 0))) ∧ Aside0 (Below w.heap.size w wc))
  case first =>
    have H := HC4.out
    clear HC4
    by_cases c6 : a1 > 63
    · rw [if_pos c6] at H
      have c6b0 : decide (63 < a1) = true := decide_eq_true c6
      clear c6
      (first | rw [c6b0] | (simp only [i64_w, i32_w]; rw [c6b0]) | skip)
      have H' := Aside0.mk H
      clear H
      go_wp2
      go_meet
      case rel => exact ⟨_, (true), (by first | rfl | (simp; done) | (simp [*]; done)), H', ⟨by first | omega | exact Nat.le_refl _⟩, ⟨by (with_reducible repeat (first | refine blk_drewN ?_ _ | refine blk_drew ?_ | refine blk_alloc ?_ _)); exact BK208.out⟩, ⟨by repeat (first | (with_reducible first | exact HB.out | apply below_alloc | apply pw_below_drewN | apply below_drew1 | refine below_set ?_ GE208.out) | exact HB.out)⟩⟩
    · rw [if_neg c6] at H
      have c6b0 : decide (63 < a1) = false := decide_eq_false c6
      clear c6
      (first | rw [c6b0] | (simp only [i64_w, i32_w]; rw [c6b0]) | skip)
      by_cases c7 : 0 ≤ a1
      · rw [if_pos c7] at H
        have c7b0 := eq_true c7
        have c7b1 : decide (0 ≤ a1) = true := decide_eq_true c7
        clear c7
        obtain ⟨ji8, hji8⟩ : ∃ j_ : Int, (shr .u64 a2 a1) = j_ := ⟨_, rfl⟩
        replace H : (impl_ProofNodes.j0 k a0 a1 a2 (decide (a0 ≥ (ji8)))) = some (r1, r2, r3, r4, r5) := by first | (rw [hji8] at H; exact H) | (simp only [hji8] at H ⊢; exact H)
        have hji8_ : (a2 / 2 ^ min a1.toNat 64) = ji8 := hji8
        have hji8z : a1 ≤ 64 → (a2 / 2 ^ a1.toNat) = ji8 := shr_small hji8
        have H' := Aside0.mk H
        clear H
        go_wp2
        go_meet
        case rel => exact ⟨_, (decide (a0 ≥ (ji8))), (by first | rfl | (simp; done) | (simp only [← hji8] <;> (first | rfl | simp)) | (simp [*]; done)), H', ⟨by first | omega | exact Nat.le_refl _⟩, ⟨by (with_reducible repeat (first | refine blk_drewN ?_ _ | refine blk_drew ?_ | refine blk_alloc ?_ _)); exact BK208.out⟩, ⟨by repeat (first | (with_reducible first | exact HB.out | apply below_alloc | apply pw_below_drewN | apply below_drew1 | refine below_set ?_ GE208.out) | exact HB.out)⟩⟩
      · rw [if_neg c7] at H
        exact absurd H (by simp)
  case rest =>
    clear HC4
    try clear c1
    try clear p2
    try clear c6
    try clear c6b0
    try clear c7
    try clear c7b0
    try clear c7b1
    obtain ⟨kq, x15_3, rfl, HA, HJ3, BK208, HB⟩ := hcut
    cases kq with
    | zero => exact absurd HA.out (by simp [impl_ProofNodes.j0])
    | succ kj3 =>
      have H := HA.out
      clear HA
      simp only [impl_ProofNodes.j0] at H
      by_cases c9 : x15_3 = true
      · subst c9
        have H1 : (some (([] : List (S27)), 0, 0, 0, 0)) = some (r1, r2, r3, r4, r5) := by rw [if_pos rfl] at H; exact H
        clear H
        have H := H1
        clear H1
        simp only [Option.some.injEq, Prod.mk.injEq] at H
        obtain ⟨rfl, rfl, rfl, rfl, rfl⟩ := H
        have hcz10_0 : wc.cell? ⟨gb208, 0, none⟩ = some (.slice none 0 0) := (blk_cell BK208.out 0).trans rfl
        have hcz10_1 : wc.cell? ⟨gb208, 1, none⟩ = some (.int .u64 0) := (blk_cell BK208.out 1).trans rfl
        have hcz10_2 : wc.cell? ⟨gb208, 2, none⟩ = some (.int .u64 0) := (blk_cell BK208.out 2).trans rfl
        have hcz10_3 : wc.cell? ⟨gb208, 3, none⟩ = some (.int .i64 0) := (blk_cell BK208.out 3).trans rfl
        have hcz10_4 : wc.cell? ⟨gb208, 4, none⟩ = some (.int .i64 0) := (blk_cell BK208.out 4).trans rfl
        have hfz10_0 := blk_frozen BK208.out 0
        have hfz10_1 := blk_frozen BK208.out 1
        have hfz10_2 := blk_frozen BK208.out 2
        have hfz10_3 := blk_frozen BK208.out 3
        have hfz10_4 := blk_frozen BK208.out 4
        go_wp2
        refine bodyPost_ret (results_cell_row rfl _ _ gb208 36 #[.slice none 0 0, .int .u64 0, .int .u64 0, .int .i64 0, .int .i64 0] (0, 0) _ rfl (by (with_reducible repeat (first | refine blk_drewN ?_ _ | refine blk_drew ?_ | refine blk_alloc ?_ _)); refine blk_put (cs := #[.slice none 0 0, .int .u64 0, .int .u64 0, .int .i64 0, .int .i64 0]) ?_ 4 _ rfl; (with_reducible repeat (first | refine blk_drewN ?_ _ | refine blk_drew ?_ | refine blk_alloc ?_ _)); refine blk_put (cs := #[.slice none 0 0, .int .u64 0, .int .u64 0, .int .i64 0, .int .i64 0]) ?_ 3 _ rfl; (with_reducible repeat (first | refine blk_drewN ?_ _ | refine blk_drew ?_ | refine blk_alloc ?_ _)); refine blk_put (cs := #[.slice none 0 0, .int .u64 0, .int .u64 0, .int .i64 0, .int .i64 0]) ?_ 2 _ rfl; (with_reducible repeat (first | refine blk_drewN ?_ _ | refine blk_drew ?_ | refine blk_alloc ?_ _)); refine blk_put (cs := #[.slice none 0 0, .int .u64 0, .int .u64 0, .int .i64 0, .int .i64 0]) ?_ 1 _ rfl; (with_reducible repeat (first | refine blk_drewN ?_ _ | refine blk_drew ?_ | refine blk_alloc ?_ _)); refine blk_put (cs := #[.slice none 0 0, .int .u64 0, .int .u64 0, .int .i64 0, .int .i64 0]) ?_ 0 _ rfl; (with_reducible repeat (first | refine blk_drewN ?_ _ | refine blk_drew ?_ | refine blk_alloc ?_ _)); exact BK208.out) Tryd.underlying36 rfl (by kernel_rfl)) rfl ?_
        exact ⟨_, by first | rfl | (simp [errW_none, errW_some] <;> rfl) | (simp [*, errW_none, errW_some] <;> rfl), by first | exact Kd.R_nil _ _ _ _ _ | exact Kd.N_nil _ _ _ _ _ | exact Kd.V_nil _ _ _ _ _ | exact Kd.Q_nil _ _ _ _ _ | exact Kd.S_nil _ _ _ _ _, by repeat (first | (with_reducible first | exact HB.out | apply below_alloc | apply pw_below_drewN | apply below_drew1 | refine below_set ?_ GE208.out) | exact HB.out)⟩
      · replace c9 := Bool.eq_false_iff.mpr c9
        subst c9
        have H1 : ((proof_DoorNodes.f kj3 a0 a1 a2).bind fun bt209 => ((impl_fromProof.f kj3 bt209.1 bt209.2.1 bt209.2.2.1 bt209.2.2.2.1 bt209.2.2.2.2).bind fun bt216 => (some (bt216.1, bt216.2.1, bt216.2.2.1, bt216.2.2.2.1, bt216.2.2.2.2)))) = some (r1, r2, r3, r4, r5) := by rw [if_neg (show ¬ (false = true) by decide)] at H; exact H
        clear H
        have H := H1
        clear H1
        replace H := Option.bind_eq_some_iff.mp H
        obtain ⟨⟨t209, t212, t213, t214, t215⟩, A110, H⟩ := H
        replace H : ((impl_fromProof.f kj3 t209 t212 t213 t214 t215).bind fun bt216 => (some (bt216.1, bt216.2.1, bt216.2.2.1, bt216.2.2.2.1, bt216.2.2.2.2))) = some (r1, r2, r3, r4, r5) := H
        have A11 := Aside0.mk A110
        clear A110
        replace H := Option.bind_eq_some_iff.mp H
        obtain ⟨⟨t216, t219, t220, t221, t222⟩, A120, H⟩ := H
        replace H : (some (t216, t219, t220, t221, t222)) = some (r1, r2, r3, r4, r5) := H
        have A12 := Aside0.mk A120
        clear A120
        simp only [Option.some.injEq, Prod.mk.injEq] at H
        obtain ⟨rfl, rfl, rfl, rfl, rfl⟩ := H
        go_wp2_with (first | ((with_reducible refine gate_callee (f := 23) rfl ?_); refine goesL_ (some 20) rfl rfl Tryd.func23 (by kernel_rfl) rfl #[.int .u64 a0, .int .u64 a1, .int .u64 a2] rfl (by (try simp only [List.map_toArray, List.map_cons, List.map_nil]); first | done | rfl | (simp only [List.length_drop, List.length_take]; rfl)) ?_; (with_reducible refine (proof_DoorNodes.calls kj3 a0 a1 a2 t209 t212 t213 t214 t215 _ ?side1 A11.out).mono ?_); (case side1 => first | exact HG.out | exact Glob.drewN HG.out _ | exact Glob.below HG.out (by repeat (first | (with_reducible first | exact HB.out | apply below_alloc | apply pw_below_drewN | apply below_drew1 | refine below_set ?_ GE208.out) | exact HB.out))); rintro e w13 ⟨v210, rfl, ho0, hb⟩; refine ⟨_, rfl, ?_⟩; have n0_ := Aside0.mk (Kd.R_lower ho0 (below_size (by repeat (first | (with_reducible first | exact HB.out | apply below_alloc | apply pw_below_drewN | apply below_drew1 | refine below_set ?_ GE208.out) | exact HB.out)))); have n1_ := Aside0.mk (blk_below (g := gb208) (o := .cells #[.slice none 0 0, .int .u64 0, .int .u64 0, .int .i64 0, .int .i64 0] 36 (0, 0)) (by (with_reducible repeat (first | refine blk_drewN ?_ _ | refine blk_drew ?_ | refine blk_alloc ?_ _)); exact BK208.out) hb); have n2_ := Aside0.mk (below_step (by repeat (first | (with_reducible first | exact HB.out | apply below_alloc | apply pw_below_drewN | apply below_drew1 | refine below_set ?_ GE208.out) | exact HB.out)) hb); clear BK208; clear HB; have HO211 := n0_; have BK208 := n1_; have HB := n2_; clear n0_ n1_ n2_; (try clear hb); (try clear hb2); (try clear hk); (try clear hi); (try clear ho0); obtain ⟨Ao14, co14, eo14⟩ := Kd.R_slice HO211.out; subst eo14) | ((with_reducible refine gate_callee (f := 22) rfl ?_); refine goesL_ (some 21) rfl rfl Tryd.func22 (by kernel_rfl) rfl #[.agg #[.slice Ao14 t209.length co14, .int .i64 t212, .int .i64 t213, .int .u64 t214, .int .u64 t215]] rfl (by (try simp only [List.map_toArray, List.map_cons, List.map_nil]); first | done | rfl | (simp only [List.length_drop, List.length_take]; rfl)) ?_; (with_reducible refine (impl_fromProof.calls kj3 _ _ t209 t212 t213 t214 t215 t216 t219 t220 t221 t222 _ ?side1 ?side2 A12.out).mono ?_); (case side1 => repeat (first | exact (Kd.R_reads' HO211.out).2.2 | (with_reducible refine Kd.C_alloc ?_ _) | (with_reducible refine Kd.C_drewN ?_ _) | (with_reducible refine Kd.C_drew ?_))); (case side2 => exact (Kd.R_reads' HO211.out).2.1); rintro e w15 ⟨v217, rfl, ho0, hb⟩; refine ⟨_, rfl, ?_⟩; have n0_ := Aside0.mk (Kd.R_below (by (with_reducible repeat (first | apply Kd.R_alloc | apply Kd.R_drewN | apply Kd.R_drew)); exact HO211.out) hb); have n1_ := Aside0.mk (Kd.R_lower ho0 (below_size (by repeat (first | (with_reducible first | exact HB.out | apply below_alloc | apply pw_below_drewN | apply below_drew1 | refine below_set ?_ GE208.out) | exact HB.out)))); have n2_ := Aside0.mk (blk_below (g := gb208) (o := .cells #[.slice none 0 0, .int .u64 0, .int .u64 0, .int .i64 0, .int .i64 0] 36 (0, 0)) (by (with_reducible repeat (first | refine blk_drewN ?_ _ | refine blk_drew ?_ | refine blk_alloc ?_ _)); exact BK208.out) hb); have n3_ := Aside0.mk (below_step (by repeat (first | (with_reducible first | exact HB.out | apply below_alloc | apply pw_below_drewN | apply below_drew1 | refine below_set ?_ GE208.out) | exact HB.out)) hb); clear HO211; clear BK208; clear HB; have HO211 := n0_; have HO218 := n1_; have BK208 := n2_; have HB := n3_; clear n0_ n1_ n2_ n3_; (try clear hb); (try clear hb2); (try clear hk); (try clear hi); (try clear ho0); obtain ⟨Ao16, co16, eo16⟩ := Kd.R_slice HO218.out; subst eo16; have hcz17_0 : w15.cell? ⟨gb208, 0, none⟩ = some (.slice none 0 0) := (blk_cell BK208.out 0).trans rfl; have hcz17_1 : w15.cell? ⟨gb208, 1, none⟩ = some (.int .u64 0) := (blk_cell BK208.out 1).trans rfl; have hcz17_2 : w15.cell? ⟨gb208, 2, none⟩ = some (.int .u64 0) := (blk_cell BK208.out 2).trans rfl; have hcz17_3 : w15.cell? ⟨gb208, 3, none⟩ = some (.int .i64 0) := (blk_cell BK208.out 3).trans rfl; have hcz17_4 : w15.cell? ⟨gb208, 4, none⟩ = some (.int .i64 0) := (blk_cell BK208.out 4).trans rfl; have hfz17_0 := blk_frozen BK208.out 0; have hfz17_1 := blk_frozen BK208.out 1; have hfz17_2 := blk_frozen BK208.out 2; have hfz17_3 := blk_frozen BK208.out 3; have hfz17_4 := blk_frozen BK208.out 4))
        refine bodyPost_ret (results_cell_row rfl _ _ gb208 36 #[.slice Ao16 t216.length co16, .int .u64 t219, .int .u64 t220, .int .i64 t221, .int .i64 t222] (0, 0) _ rfl (by (with_reducible repeat (first | refine blk_drewN ?_ _ | refine blk_drew ?_ | refine blk_alloc ?_ _)); refine blk_put (cs := #[.slice Ao16 t216.length co16, .int .u64 t219, .int .u64 t220, .int .i64 t221, .int .i64 0]) ?_ 4 _ rfl; (with_reducible repeat (first | refine blk_drewN ?_ _ | refine blk_drew ?_ | refine blk_alloc ?_ _)); refine blk_put (cs := #[.slice Ao16 t216.length co16, .int .u64 t219, .int .u64 t220, .int .i64 0, .int .i64 0]) ?_ 3 _ rfl; (with_reducible repeat (first | refine blk_drewN ?_ _ | refine blk_drew ?_ | refine blk_alloc ?_ _)); refine blk_put (cs := #[.slice Ao16 t216.length co16, .int .u64 t219, .int .u64 0, .int .i64 0, .int .i64 0]) ?_ 2 _ rfl; (with_reducible repeat (first | refine blk_drewN ?_ _ | refine blk_drew ?_ | refine blk_alloc ?_ _)); refine blk_put (cs := #[.slice Ao16 t216.length co16, .int .u64 0, .int .u64 0, .int .i64 0, .int .i64 0]) ?_ 1 _ rfl; (with_reducible repeat (first | refine blk_drewN ?_ _ | refine blk_drew ?_ | refine blk_alloc ?_ _)); refine blk_put (cs := #[.slice none 0 0, .int .u64 0, .int .u64 0, .int .i64 0, .int .i64 0]) ?_ 0 _ rfl; (with_reducible repeat (first | refine blk_drewN ?_ _ | refine blk_drew ?_ | refine blk_alloc ?_ _)); exact BK208.out) Tryd.underlying36 rfl (by kernel_rfl)) rfl ?_
        exact ⟨_, by first | rfl | (simp [errW_none, errW_some] <;> rfl) | (simp [*, errW_none, errW_some] <;> rfl), by (with_reducible repeat (first | apply Kd.R_alloc | apply Kd.R_drewN | apply Kd.R_drew)); exact Kd.R_mono (Kd.R_far (p := ⟨gb208, 4, none⟩) (Kd.R_far (p := ⟨gb208, 3, none⟩) (Kd.R_far (p := ⟨gb208, 2, none⟩) (Kd.R_far (p := ⟨gb208, 1, none⟩) (Kd.R_far (p := ⟨gb208, 0, none⟩) (Kd.R_types HO218.out BK208.out (by decide)) (fun _ hk => hk.2) (.slice Ao16 t216.length co16)) (fun _ hk => hk.2) (.int .u64 t219)) (fun _ hk => hk.2) (.int .u64 t220)) (fun _ hk => hk.2) (.int .i64 t221)) (fun _ hk => hk.2) (.int .i64 t222)) (fun _ hk => trivial), by repeat (first | (with_reducible first | exact HB.out | apply below_alloc | apply pw_below_drewN | apply below_drew1 | refine below_set ?_ GE208.out) | exact HB.out)⟩

end Go.Proofs.YtmcelgfekffinaaDoor.Qt
