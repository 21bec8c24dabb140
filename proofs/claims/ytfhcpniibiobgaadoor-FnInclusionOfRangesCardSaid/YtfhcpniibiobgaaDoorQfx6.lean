-- Written by wip/tools/myprint.py for this seat (the kit's print with changes); Lean checks it.
import Derived.Test.YtfhcpniibiobgaaDoorQfx0
import Derived.Test.YtfhcpniibiobgaaDoorQfx2
import Derived.Test.YtfhcpniibiobgaaDoorQfx3
import Derived.Test.YtfhcpniibiobgaaDoorQfx4
import Derived.Test.YtfhcpniibiobgaaDoorQfx5
namespace Go.Proofs.YtfhcpniibiobgaaDoor.Qf
open Go.RowKit Go.Proofs.YtfhcpniibiobgaaDoorW.PrintWords Go.Proofs.YtfhcpniibiobgaaDoorW.PrintLast Go.Proofs.YtfhcpniibiobgaaDoorW.PrintMore
attribute [local go_sem] max2_int min2_int max_two min_two max_three min_three max_four min_four
set_option linter.unusedVariables false
set_option linter.unusedSimpArgs false
def proof_nodes.l0 : Nat → Int → Int → Int → Int → Int → List (S108) → Int → Int → Int → Int → Option ((List (S108)) × Int × Int × Int × Int)
  | 0, _, _, _, _, _, _, _, _, _, _ => none
  | k + 1, x2, x9, x10, x11, x12, x14, x204000, x204001, x211000, x211001 => if x211000 < x204000 then ((compact_NodeID_Sibling.f x211000 x211001).bind fun bt220 => ((some (([(⟨bt220.1, bt220.2⟩ : S108)] : List (S108)) : List (S108))).bind fun y222 => (if x14.length + y222.length < 8796093022208 then ((compact_NodeID_Parent.f x211000 x211001).bind fun bt228 => (proof_nodes.l0 k x2 x9 x10 x11 x12 (x14 ++ y222) x204000 x204001 bt228.1 bt228.2)) else (none)))) else ((compact_RangeNodes.f k x10 x2 x14).bind fun t230 => ((proof_revtail.f k t230 (wrap64 ((t230.length : Int) - x12))).bind fun t233 => ((compact_RangeNodes.f k 0 x9 t233).bind fun t234 => ((proof_revtail.f k t234 (wrap64 ((t234.length : Int) - x11))).bind fun t237 => (if (x14.length : Int) ≥ (t230.length : Int) then ((compact_NodeID_Sibling.f x204000 x204001).bind fun bt238 => (some (t237, 0, 0, bt238.1, bt238.2))) else ((compact_NodeID_Sibling.f x204000 x204001).bind fun bt240 => (some (t237, (x14.length : Int), (t230.length : Int), bt240.1, bt240.2))))))))
def proof_nodes.f (k : Nat) (a0 : Int) (a1 : Int) (a2 : Int) : Option ((List (S108)) × Int × Int × Int × Int) := if 0 ≤ a1 then ((bits_Len64.f (Go.bits .xor .u64 a0 (shr .u64 a2 a1))).bind fun t200 => (if 0 ≤ (wrap64 (t200 - 1)) then ((compact_NewNodeID.f (IntKind.u64.wrap (a1 + (IntKind.u64.wrap (wrap64 (t200 - 1))))) (shr .u64 a0 (wrap64 (t200 - 1)))).bind fun bt201 => ((compact_NodeID_Coverage.f bt201.1 bt201.2).bind fun bt204 => ((compact_RangeSize.f 0 bt204.1).bind fun t206 => ((compact_RangeSize.f bt204.2 a2).bind fun t207 => ((compact_NewNodeID.f a1 a0).bind fun bt208 => (if 0 ≤ (wrap64 ((wrap64 ((wrap64 (1 + (wrap64 (t200 - 1)))) + t207)) + t206)) then (if (wrap64 ((wrap64 ((wrap64 (1 + (wrap64 (t200 - 1)))) + t207)) + t206) : Int).toNat ≤ 17592186044416 then ((some (([] : List (S108)) : List (S108))).bind fun y211 => ((some (([(⟨bt208.1, bt208.2⟩ : S108)] : List (S108)) : List (S108))).bind fun y214 => (if y211.length + y214.length < 8796093022208 then (proof_nodes.l0 k a2 bt204.1 bt204.2 t206 t207 (y211 ++ y214) bt201.1 bt201.2 bt208.1 bt208.2) else (none)))) else (none)) else (none))))))) else (none))) else (none)
def proof_nodes.T7 : Bool × List (List Nat × List Nat) := (true, [([], []), ([0], [0]), ([], []), ([1, 2], [1, 2]), ([], []), ([3, 4], [3, 4]), ([5], [5]), ([], []), ([7], [7]), ([6, 8], [6, 8]), ([9, 9, 0, 1, 2, 3, 4, 5, 6, 7, 8, 9], [9])])
def proof_nodes.B7 : List Nat := [0, 1, 0, 7, 0, 31, 63, 0, 128, 511, 1023]
theorem proof_nodes.tab7 : rtab .any (opsOf Tryd.f108 7) = proof_nodes.T7 := by kernel_rfl
theorem proof_nodes.bits7 : waitsOk proof_nodes.T7.2 proof_nodes.B7 = true := by kernel_rfl
set_option maxHeartbeats 8000000 in
set_option maxRecDepth 100000 in
theorem proof_nodes.calls (k : Nat) (a0 : Int) (a1 : Int) (a2 : Int) (r1 : List (S108)) (r2 : Int) (r3 : Int) (r4 : Int) (r5 : Int) (w : World) (HG_ : Glob w) (h : proof_nodes.f k a0 a1 a2 = some (r1, r2, r3, r4, r5)) :
    Calls Tryd.prog 108 #[.int .u64 a0, .int .u64 a1, .int .u64 a2] w fun e w' => ∃ v0_ : Value, e = .returned (.agg #[v0_, .int .i64 r2, .int .i64 r3, .int .u64 r4, .int .u64 r5]) ∧ Kd.R k108 108 w' w.heap.size (fun _ => True) v0_ r1 ∧ Below w.heap.size w w' := by
  have hu132 := Tryd.underlying132
  have hu108 := Tryd.underlying108
  have HG := aq HG_
  clear HG_
  have HB := aq (Below.refl w.heap.size w)
  have H : (if 0 ≤ a1 then ((bits_Len64.f (Go.bits .xor .u64 a0 (shr .u64 a2 a1))).bind fun t200 => (if 0 ≤ (wrap64 (t200 - 1)) then ((compact_NewNodeID.f (IntKind.u64.wrap (a1 + (IntKind.u64.wrap (wrap64 (t200 - 1))))) (shr .u64 a0 (wrap64 (t200 - 1)))).bind fun bt201 => ((compact_NodeID_Coverage.f bt201.1 bt201.2).bind fun bt204 => ((compact_RangeSize.f 0 bt204.1).bind fun t206 => ((compact_RangeSize.f bt204.2 a2).bind fun t207 => ((compact_NewNodeID.f a1 a0).bind fun bt208 => (if 0 ≤ (wrap64 ((wrap64 ((wrap64 (1 + (wrap64 (t200 - 1)))) + t207)) + t206)) then (if (wrap64 ((wrap64 ((wrap64 (1 + (wrap64 (t200 - 1)))) + t207)) + t206) : Int).toNat ≤ 17592186044416 then ((some (([] : List (S108)) : List (S108))).bind fun y211 => ((some (([(⟨bt208.1, bt208.2⟩ : S108)] : List (S108)) : List (S108))).bind fun y214 => (if y211.length + y214.length < 8796093022208 then (proof_nodes.l0 k a2 bt204.1 bt204.2 t206 t207 (y211 ++ y214) bt201.1 bt201.2 bt208.1 bt208.2) else (none)))) else (none)) else (none))))))) else (none))) else (none)) = some (r1, r2, r3, r4, r5) := h
  clear h
  by_cases c4 : 0 ≤ a1
  · rw [if_pos c4] at H
    have c4b0 := eq_true c4
    have c4b1 : decide (0 ≤ a1) = true := decide_eq_true c4
    clear c4
    obtain ⟨ji5, hji5⟩ : ∃ j_ : Int, (shr .u64 a2 a1) = j_ := ⟨_, rfl⟩
    first | rw [hji5] at H | simp only [hji5] at H
    have hji5_ : (a2 / 2 ^ min a1.toNat 64) = ji5 := hji5
    have hji5z : a1 ≤ 64 → (a2 / 2 ^ a1.toNat) = ji5 := shr_small hji5
    replace H := Option.bind_eq_some_iff.mp H
    obtain ⟨t200, A60, H⟩ := H
    have A6 := aq A60
    clear A60
    obtain ⟨ji7, hji7⟩ : ∃ j_ : Int, (wrap64 (t200 - 1)) = j_ := ⟨_, rfl⟩
    first | rw [hji7] at H | simp only [hji7] at H
    (try rw [hji7] at A6)
    have hji7w : (IntKind.i64.wrap (t200 - 1)) = ji7 := (i64_w _).trans hji7
    by_cases c8 : 0 ≤ (ji7)
    · rw [if_pos c8] at H
      have c8b0 := eq_true c8
      have c8b1 : decide (0 ≤ (ji7)) = true := decide_eq_true c8
      clear c8
      obtain ⟨ji9, hji9⟩ : ∃ j_ : Int, (shr .u64 a0 (ji7)) = j_ := ⟨_, rfl⟩
      first | rw [hji9] at H | simp only [hji9] at H
      (try rw [hji9] at A6)
      have hji9_ : (a0 / 2 ^ min (ji7).toNat 64) = ji9 := hji9
      have hji9z : (ji7) ≤ 64 → (a0 / 2 ^ (ji7).toNat) = ji9 := shr_small hji9
      replace H := Option.bind_eq_some_iff.mp H
      obtain ⟨⟨t201, t202⟩, A100, H⟩ := H
      have A10 := aq A100
      clear A100
      replace H := Option.bind_eq_some_iff.mp H
      obtain ⟨⟨t204, t205⟩, A110, H⟩ := H
      have A11 := aq A110
      clear A110
      replace H := Option.bind_eq_some_iff.mp H
      obtain ⟨t206, A120, H⟩ := H
      have A12 := aq A120
      clear A120
      replace H := Option.bind_eq_some_iff.mp H
      obtain ⟨t207, A130, H⟩ := H
      have A13 := aq A130
      clear A130
      replace H := Option.bind_eq_some_iff.mp H
      obtain ⟨⟨t208, t209⟩, A140, H⟩ := H
      have A14 := aq A140
      clear A140
      obtain ⟨ji15, hji15⟩ : ∃ j_ : Int, (wrap64 ((wrap64 ((wrap64 (1 + (ji7))) + t207)) + t206)) = j_ := ⟨_, rfl⟩
      first | rw [hji15] at H | simp only [hji15] at H
      (try rw [hji15] at A6)
      (try rw [hji15] at A10)
      (try rw [hji15] at A11)
      (try rw [hji15] at A12)
      (try rw [hji15] at A13)
      (try rw [hji15] at A14)
      have hji15w : (IntKind.i64.wrap ((wrap64 ((wrap64 (1 + (ji7))) + t207)) + t206)) = ji15 := (i64_w _).trans hji15
      by_cases c16 : 0 ≤ (ji15)
      · rw [if_pos c16] at H
        have c16b0 := eq_true c16
        have c16b1 : decide (0 ≤ (ji15)) = true := decide_eq_true c16
        clear c16
        by_cases c17 : (ji15 : Int).toNat ≤ 17592186044416
        · rw [if_pos c17] at H
          have c17b0 := eq_true c17
          have c17b1 : decide ((ji15 : Int).toNat ≤ 17592186044416) = true := decide_eq_true c17
          clear c17
          obtain ⟨y211, hy211⟩ : ∃ y_ : List (S108), y_ = (([] : List (S108))) := ⟨_, rfl⟩
          replace H : ((some (([(⟨t208, t209⟩ : S108)] : List (S108)) : List (S108))).bind fun y214 => (if y211.length + y214.length < 8796093022208 then (proof_nodes.l0 k a2 t204 t205 t206 t207 (y211 ++ y214) t201 t202 t208 t209) else (none))) = some (r1, r2, r3, r4, r5) := by first | (rw [hy211]; with_reducible exact H) | (have H2_ := (Option.bind_some _ _).symm.trans H; rw [hy211]; with_reducible exact H2_) | (have H2_ := (Option.bind_some _ _).symm.trans H; with_reducible exact H2_) | with_reducible exact H | (rw [hy211]; exact H) | exact H
          have Ny211 := aq hy211
          clear hy211
          obtain ⟨y214, hy214⟩ : ∃ y_ : List (S108), y_ = (([(⟨t208, t209⟩ : S108)] : List (S108))) := ⟨_, rfl⟩
          replace H : (if y211.length + y214.length < 8796093022208 then (proof_nodes.l0 k a2 t204 t205 t206 t207 (y211 ++ y214) t201 t202 t208 t209) else (none)) = some (r1, r2, r3, r4, r5) := by first | (rw [hy214]; with_reducible exact H) | (have H2_ := (Option.bind_some _ _).symm.trans H; rw [hy214]; with_reducible exact H2_) | (have H2_ := (Option.bind_some _ _).symm.trans H; with_reducible exact H2_) | with_reducible exact H | (rw [hy214]; exact H) | exact H
          have Ny214 := aq hy214
          clear hy214
          by_cases c18 : y211.length + y214.length < 8796093022208
          · rw [if_pos c18] at H
            have LMc18 := aq c18
            clear c18
            obtain ⟨y217, hy217⟩ : ∃ y_ : List (S108), y_ = (y211 ++ y214) := ⟨_, rfl⟩
            replace H : (proof_nodes.l0 k a2 t204 t205 t206 t207 y217 t201 t202 t208 t209) = some (r1, r2, r3, r4, r5) := by first | (rw [hy217]; with_reducible exact H) | (have H2_ := (Option.bind_some _ _).symm.trans H; rw [hy217]; with_reducible exact H2_) | (have H2_ := (Option.bind_some _ _).symm.trans H; with_reducible exact H2_) | with_reducible exact H | (rw [hy217]; exact H) | exact H
            have Ny217 := aq hy217
            clear hy217
            have H' := aq H
            clear H
            go_enter Tryd.func108, Tryd.ntmps108
            try go_wp2_with (first | ((with_reducible refine gate_dst (N := 6) rfl ?_); refine be 6 #[.slice none 0 0, .int .i64 0, .int .i64 0, .int .u64 0, .int .u64 0] 132 ?_; intro gb199 hg w19 hbox hb; have BK199 := aq (hbox); have GW199 := aq ((by rw [hg]; exact (below_size (bw HB)) : w.heap.size ≤ gb199)); have GE199 := aq ((by rw [hg]; exact (below_size (bw HB)) : w.heap.size ≤ gb199)); replace HB := aq (below_step (bw HB) hb); clear hb hbox hg) | ((with_reducible refine gate_callee (f := 116) rfl ?_); refine goesL_ (some 22) rfl rfl Tryd.func116 (by kernel_rfl) rfl #[.int .u64 (Go.bits .xor .u64 a0 (ji5))] rfl (by (try simp only [List.map_toArray, List.map_cons, List.map_nil]); first | done | (simp only [hji5]; rfl) | rfl | (simp only [List.length_drop, List.length_take]; rfl)) ?_; (with_reducible refine (bits_Len64.calls (Go.bits .xor .u64 a0 (ji5)) t200 _ A6.out).mono ?_); rintro e w' ⟨rfl, ⟨nd, rfl⟩⟩; refine ⟨_, rfl, ?_⟩; (try (rw [drewN_self w19]; generalize hq_ : World.drewN w19 _ = w19; have n0_ : Aside0 (w19.heap[gb199]? = some (.cells #[.slice none 0 0, .int .i64 0, .int .i64 0, .int .u64 0, .int .u64 0] 132 (0, 0))) := ⟨by rw [← hq_]; exact (bq BK199)⟩; have n1_ : Aside0 (Below w.heap.size w w19) := ⟨by rw [← hq_]; exact (bw HB)⟩; clear BK199 HB hq_; have BK199 := n0_; have HB := n1_; clear n0_ n1_))) | ((with_reducible refine gate_callee (f := 90) rfl ?_); refine goesL_ (some 31) rfl rfl Tryd.func90 (by kernel_rfl) rfl #[.int .u64 (IntKind.u64.wrap (a1 + (IntKind.u64.wrap (ji7)))), .int .u64 ji9] rfl (by (try simp only [List.map_toArray, List.map_cons, List.map_nil]); first | done | (simp only [hji7, hji9]; rfl) | rfl | (simp only [List.length_drop, List.length_take]; rfl)) ?_; (with_reducible refine (compact_NewNodeID.calls (IntKind.u64.wrap (a1 + (IntKind.u64.wrap (ji7)))) ji9 t201 t202 _ A10.out).mono ?_); rintro e w20 ⟨rfl, hb⟩; refine ⟨_, rfl, ?_⟩; replace BK199 := aq (blk_below (bq BK199) hb); replace HB := aq (below_step (bw HB) hb); (try clear hb); (try clear hk)) | ((with_reducible refine gate_dst (N := 8) rfl ?_); refine be 8 #[.int .u64 0, .int .u64 0] 108 ?_; intro gb203 hg w21 hbox hb; have BK203 := aq (hbox); have GW203 := aq ((by rw [hg]; exact (below_size (bw HB)) : w.heap.size ≤ gb203)); have GE203 := aq ((by rw [hg]; exact (below_size (bw HB)) : w.heap.size ≤ gb203)); have NB199_203 := aq ((by rw [hg]; exact Nat.ne_of_lt (blk_lt (g := gb199) (o := .cells #[.slice none 0 0, .int .i64 0, .int .i64 0, .int .u64 0, .int .u64 0] 132 (0, 0)) (bq BK199)) : gb199 ≠ gb203)); have NB203_199 := aq ((by rw [hg]; exact Nat.ne_of_gt (blk_lt (g := gb199) (o := .cells #[.slice none 0 0, .int .i64 0, .int .i64 0, .int .u64 0, .int .u64 0] 132 (0, 0)) (bq BK199)) : gb203 ≠ gb199)); replace BK199 := aq (blk_below (bq BK199) hb); replace HB := aq (below_step (bw HB) hb); clear hb hbox hg; have hnb22 := NB203_199.out; have hnc22 := NB199_203.out; have hcz23_0 : w21.cell? ⟨gb203, 0, none⟩ = some (.int .u64 0) := bc BK203 0; have hcz23_1 : w21.cell? ⟨gb203, 1, none⟩ = some (.int .u64 0) := bc BK203 1; have hfz23_0 := bz BK203 0; have hfz23_1 := bz BK203 1) | ((with_reducible refine gate_callee (f := 117) rfl ?_); refine gL 34 Tryd.func117 #[.agg #[.int .u64 t201, .int .u64 t202]] ?_; (with_reducible refine (compact_NodeID_Coverage.calls t201 t202 t204 t205 _ A11.out).mono ?_); rintro e w24 ⟨rfl, hb⟩; refine ⟨_, rfl, ?_⟩; replace BK199 := aq (blk_below (g := gb199) (o := .cells #[.slice none 0 0, .int .i64 0, .int .i64 0, .int .u64 0, .int .u64 0] 132 (0, 0)) (by (with_reducible repeat (first | refine blk_drewN ?_ _ | refine blk_drew ?_ | refine blk_alloc ?_ _)); refine blk_far ?_ NB199_203.out _; (with_reducible repeat (first | refine blk_drewN ?_ _ | refine blk_drew ?_ | refine blk_alloc ?_ _)); refine blk_far ?_ NB199_203.out _; (with_reducible repeat (first | refine blk_drewN ?_ _ | refine blk_drew ?_ | refine blk_alloc ?_ _)); exact BK199.out) hb); replace BK203 := aq (blk_below (g := gb203) (o := .cells #[.int .u64 t201, .int .u64 t202] 108 (0, 0)) (by (with_reducible repeat (first | refine blk_drewN ?_ _ | refine blk_drew ?_ | refine blk_alloc ?_ _)); refine blk_put (cs := #[.int .u64 t201, .int .u64 0]) ?_ 1 _ rfl; (with_reducible repeat (first | refine blk_drewN ?_ _ | refine blk_drew ?_ | refine blk_alloc ?_ _)); refine blk_put (cs := #[.int .u64 0, .int .u64 0]) ?_ 0 _ rfl; (with_reducible repeat (first | refine blk_drewN ?_ _ | refine blk_drew ?_ | refine blk_alloc ?_ _)); exact BK203.out) hb); replace HB := aq (below_step (bw HB) hb); (try clear hb); (try clear hk)) | ((with_reducible refine gate_callee (f := 88) rfl ?_); refine gL 38 Tryd.func88 #[.int .u64 0, .int .u64 t204] ?_; (with_reducible refine (compact_RangeSize.calls 0 t204 t206 _ A12.out).mono ?_); rintro e w' ⟨rfl, ⟨nd, rfl⟩⟩; refine ⟨_, rfl, ?_⟩; (try (rw [drewN_self w24]; generalize hq_ : World.drewN w24 _ = w24; have n0_ : Aside0 (w24.heap[gb199]? = some (.cells #[.slice none 0 0, .int .i64 0, .int .i64 0, .int .u64 0, .int .u64 0] 132 (0, 0))) := ⟨by rw [← hq_]; exact (bq BK199)⟩; have n1_ : Aside0 (w24.heap[gb203]? = some (.cells #[.int .u64 t201, .int .u64 t202] 108 (0, 0))) := ⟨by rw [← hq_]; exact (bq BK203)⟩; have n2_ : Aside0 (Below w.heap.size w w24) := ⟨by rw [← hq_]; exact (bw HB)⟩; clear BK199 BK203 HB hq_; have BK199 := n0_; have BK203 := n1_; have HB := n2_; clear n0_ n1_ n2_))) | ((with_reducible refine gate_callee (f := 88) rfl ?_); refine gL 41 Tryd.func88 #[.int .u64 t205, .int .u64 a2] ?_; (with_reducible refine (compact_RangeSize.calls t205 a2 t207 _ A13.out).mono ?_); rintro e w' ⟨rfl, ⟨nd, rfl⟩⟩; refine ⟨_, rfl, ?_⟩; (try (rw [drewN_self w24]; generalize hq_ : World.drewN w24 _ = w24; have n0_ : Aside0 (w24.heap[gb199]? = some (.cells #[.slice none 0 0, .int .i64 0, .int .i64 0, .int .u64 0, .int .u64 0] 132 (0, 0))) := ⟨by rw [← hq_]; exact (bq BK199)⟩; have n1_ : Aside0 (w24.heap[gb203]? = some (.cells #[.int .u64 t201, .int .u64 t202] 108 (0, 0))) := ⟨by rw [← hq_]; exact (bq BK203)⟩; have n2_ : Aside0 (Below w.heap.size w w24) := ⟨by rw [← hq_]; exact (bw HB)⟩; clear BK199 BK203 HB hq_; have BK199 := n0_; have BK203 := n1_; have HB := n2_; clear n0_ n1_ n2_))) | ((with_reducible refine gate_callee (f := 90) rfl ?_); refine gL 44 Tryd.func90 #[.int .u64 a1, .int .u64 a0] ?_; (with_reducible refine (compact_NewNodeID.calls a1 a0 t208 t209 _ A14.out).mono ?_); rintro e w25 ⟨rfl, hb⟩; refine ⟨_, rfl, ?_⟩; replace BK199 := aq (blk_below (bq BK199) hb); replace BK203 := aq (blk_below (bq BK203) hb); replace HB := aq (below_step (bw HB) hb); (try clear hb); (try clear hk)) | ((with_reducible refine gate_dst (N := 13) rfl ?_); refine be 13 #[.int .u64 0, .int .u64 0] 108 ?_; intro gb210 hg w26 hbox hb; have BK210 := aq (hbox); have GW210 := aq ((by rw [hg]; exact (below_size (bw HB)) : w.heap.size ≤ gb210)); have GE210 := aq ((by rw [hg]; exact (below_size (bw HB)) : w.heap.size ≤ gb210)); have NB199_210 := aq ((by rw [hg]; exact Nat.ne_of_lt (blk_lt (g := gb199) (o := .cells #[.slice none 0 0, .int .i64 0, .int .i64 0, .int .u64 0, .int .u64 0] 132 (0, 0)) (bq BK199)) : gb199 ≠ gb210)); have NB210_199 := aq ((by rw [hg]; exact Nat.ne_of_gt (blk_lt (g := gb199) (o := .cells #[.slice none 0 0, .int .i64 0, .int .i64 0, .int .u64 0, .int .u64 0] 132 (0, 0)) (bq BK199)) : gb210 ≠ gb199)); have NB203_210 := aq ((by rw [hg]; exact Nat.ne_of_lt (blk_lt (g := gb203) (o := .cells #[.int .u64 t201, .int .u64 t202] 108 (0, 0)) (bq BK203)) : gb203 ≠ gb210)); have NB210_203 := aq ((by rw [hg]; exact Nat.ne_of_gt (blk_lt (g := gb203) (o := .cells #[.int .u64 t201, .int .u64 t202] 108 (0, 0)) (bq BK203)) : gb210 ≠ gb203)); replace BK199 := aq (blk_below (bq BK199) hb); replace BK203 := aq (blk_below (bq BK203) hb); replace HB := aq (below_step (bw HB) hb); clear hb hbox hg; have hnb27 := NB210_199.out; have hnc27 := NB199_210.out; have hnb28 := NB210_203.out; have hnc28 := NB203_210.out; have hcz29_0 : w26.cell? ⟨gb210, 0, none⟩ = some (.int .u64 0) := bc BK210 0; have hcz29_1 : w26.cell? ⟨gb210, 1, none⟩ = some (.int .u64 0) := bc BK210 1; have hfz29_0 := bz BK210 0; have hfz29_1 := bz BK210 1))
            have n0_ : Aside0 (((w26.setCell ⟨gb210, 0, none⟩ (.int .u64 t208)).setCell ⟨gb210, 1, none⟩ (.int .u64 t209)).heap[gb199]? = some (.cells #[.slice none 0 0, .int .i64 0, .int .i64 0, .int .u64 0, .int .u64 0] 132 (0, 0))) := ⟨by (with_reducible repeat (first | refine blk_drewN ?_ _ | refine blk_drew ?_ | refine blk_alloc ?_ _)); refine blk_far ?_ NB199_210.out _; (with_reducible repeat (first | refine blk_drewN ?_ _ | refine blk_drew ?_ | refine blk_alloc ?_ _)); refine blk_far ?_ NB199_210.out _; (with_reducible repeat (first | refine blk_drewN ?_ _ | refine blk_drew ?_ | refine blk_alloc ?_ _)); exact BK199.out⟩
            have n1_ : Aside0 (((w26.setCell ⟨gb210, 0, none⟩ (.int .u64 t208)).setCell ⟨gb210, 1, none⟩ (.int .u64 t209)).heap[gb203]? = some (.cells #[.int .u64 t201, .int .u64 t202] 108 (0, 0))) := ⟨by (with_reducible repeat (first | refine blk_drewN ?_ _ | refine blk_drew ?_ | refine blk_alloc ?_ _)); refine blk_far ?_ NB203_210.out _; (with_reducible repeat (first | refine blk_drewN ?_ _ | refine blk_drew ?_ | refine blk_alloc ?_ _)); refine blk_far ?_ NB203_210.out _; (with_reducible repeat (first | refine blk_drewN ?_ _ | refine blk_drew ?_ | refine blk_alloc ?_ _)); exact BK203.out⟩
            have n2_ : Aside0 (((w26.setCell ⟨gb210, 0, none⟩ (.int .u64 t208)).setCell ⟨gb210, 1, none⟩ (.int .u64 t209)).heap[gb210]? = some (.cells #[.int .u64 t208, .int .u64 t209] 108 (0, 0))) := ⟨by (with_reducible repeat (first | refine blk_drewN ?_ _ | refine blk_drew ?_ | refine blk_alloc ?_ _)); refine blk_put (cs := #[.int .u64 t208, .int .u64 0]) ?_ 1 _ rfl; (with_reducible repeat (first | refine blk_drewN ?_ _ | refine blk_drew ?_ | refine blk_alloc ?_ _)); refine blk_put (cs := #[.int .u64 0, .int .u64 0]) ?_ 0 _ rfl; (with_reducible repeat (first | refine blk_drewN ?_ _ | refine blk_drew ?_ | refine blk_alloc ?_ _)); exact BK210.out⟩
            have n3_ : Aside0 (Below w.heap.size w ((w26.setCell ⟨gb210, 0, none⟩ (.int .u64 t208)).setCell ⟨gb210, 1, none⟩ (.int .u64 t209))) := ⟨by repeat (first | (with_reducible first | exact HB.out | apply below_alloc | apply pw_below_drewN | apply below_drew1 | refine below_set ?_ GE199.out | refine below_set ?_ GE203.out | refine below_set ?_ GE210.out) | exact HB.out)⟩
            (try clear BK199)
            (try clear BK203)
            (try clear BK210)
            (try clear HB)
            generalize ((w26.setCell ⟨gb210, 0, none⟩ (.int .u64 t208)).setCell ⟨gb210, 1, none⟩ (.int .u64 t209)) = w30 at n0_ n1_ n2_ n3_ ⊢
            have BK199 := n0_
            have BK203 := n1_
            have BK210 := n2_
            have HB := n3_
            clear n0_ n1_ n2_ n3_
            replace BK199 := aq (blk_drew BK199.out)
            replace BK203 := aq (blk_drew BK203.out)
            replace BK210 := aq (blk_drew BK210.out)
            replace HB := aq (below_drew1 HB.out)
            refine start_ (n := 11) (S := fun w' => w'.cell? ⟨gb210, 0, none⟩ = some (.int .u64 t208) ∧ w'.cell? ⟨gb210, 1, none⟩ = some (.int .u64 t209)) (ds := []) #[false, false, false, false, false, false, false, false, false, false, false] (by kernel_rfl) rfl rfl ⟨bc BK210 0, bc BK210 1⟩ (fun hHeld => ?_); refine with_tabW proof_nodes.tab7 proof_nodes.bits7 (fun HT_ HW_ => ?_)
            generalize w30.drew = w31 at BK199 BK203 BK210 HB hHeld ⊢
            refine pv 0 45 HT_ ?_
            refine pv 1 46 HT_ ?_
            refine pv 2 47 HT_ ?_
            refine pv 3 48 HT_ ?_
            refine pv 4 49 HT_ ?_
            refine pv 5 50 HT_ ?_
            refine tv 7 52 HT_ HW_ hHeld ?_
            refine join_ (σ := Value × Value) 2 #[true, true, true, true, true, true, true, true, true, false, false] (fun s_ => [(51, s_.1), (53, s_.2)]) (fun s_ w' => (w'.cell? ⟨gb210, 0, none⟩ = some (.int .u64 t208) ∧ w'.cell? ⟨gb210, 1, none⟩ = some (.int .u64 t209)) ∧ (Kd.R k108 108 w' w.heap.size (fun k_ => some k_ ≠ (s_.2 : Value).ownBlock ∧ k_ ≠ gb203 ∧ k_ ≠ gb210) s_.1 y211) ∧ (Kd.R k108 108 w' w.heap.size (fun k_ => some k_ ≠ (s_.1 : Value).ownBlock ∧ k_ ≠ gb203 ∧ k_ ≠ gb210) s_.2 y214) ∧ (w'.heap[gb199]? = some (.cells #[.slice none 0 0, .int .i64 0, .int .i64 0, .int .u64 0, .int .u64 0] 132 (0, 0))) ∧ (w'.heap[gb203]? = some (.cells #[.int .u64 t201, .int .u64 t202] 108 (0, 0))) ∧ (w'.heap[gb210]? = some (.cells #[.int .u64 t208, .int .u64 t209] 108 (0, 0))) ∧ (Below w.heap.size w w')) ?_ ?_
            rotate_left
            · intro hCont
              refine two_ (i := 6) (j := 8) (Ni := some 51) (Nj := some 53) #[true, true, true, true, true, true, true, true, false, false, false] #[true, true, true, true, true, true, false, true, true, false, false] rfl rfl rfl rfl (two_of HT_.out (by kernel_rfl)) (by decide) (by decide) (fun K hK => ?_) (fun K hK => ?_)
              · skip
                refine Kd.R_make0_step k108 _ 108 (by rfl) (N := 51) rfl 130 _ _ rfl ji15 rfl rfl Tryd.underlying130 (.agg #[(.int .u64 0), (.int .u64 0)]) 16 info108 (by decide) (ok := fun _ => True) trivial (of_decide_eq_true (by first | (with_reducible assumption) | assumption)) (Nat.le_trans (Nat.mul_le_mul_right _ (of_decide_eq_true (by first | (with_reducible assumption) | assumption) : ji15.toNat ≤ 17592186044416)) (by omega)) (Below.refl _ _) (Nat.le_refl _) ?_
                intro v212 w32 ho33 hb hg_ hnew_
                clear hg_ hnew_
                (first | rw [← Ny211.out] at ho33 | (simp only [Int.reduceToNat] at ho33; rw [← Ny211.out] at ho33))
                have HO213 := aq (Kd.R_lower (Kd.R_newB (Kd.R_newB ho33 (g := gb203) (o := .cells #[.int .u64 t201, .int .u64 t202] 108 (0, 0)) (bq BK203)) (g := gb210) (o := .cells #[.int .u64 t208, .int .u64 t209] 108 (0, 0)) (bq BK210)) (below_size (bw HB)))
                replace BK199 := aq (blk_below (bq BK199) hb)
                replace BK203 := aq (blk_below (bq BK203) hb)
                replace BK210 := aq (blk_below (bq BK210) hb)
                replace HB := aq (below_step (bw HB) hb)
                clear hb ho33
                refine hK.out _ _ ⟨bc BK210 0, bc BK210 1⟩ (fun hHeld => ?_)
                clear hK K
                refine nv ?_
                refine ov1 8 53 HT_ fun K hK => ?_
                refine Kd.R_lit_step k108 _ 108 ?hg (N := 53) ?hd (xs := ([(⟨t208, t209⟩ : S108)] : List (S108))) (inner := [.int .u64 t208, .int .u64 t209]) (ok := fun _ => True) (okp := fun _ => True) ?hr ?hp (fun _ hk => hk) trivial (Below.refl _ _) (Nat.le_refl _) (by simp) ?_; (case hd => rfl); (case hg => rfl); (case hr => first | (go_simp; done) | (go_simp; rfl)); (case hp => exact (Reps.c2 (show Kd.M k108 _ _ _ (⟨t208, t209⟩ : S108) [.int .u64 t208, .int .u64 t209] from (k108_mkM _ _ _ (⟨t208, t209⟩ : S108) )) (Reps.none _ _)))
                intro v215 w34 ho35 hb hg_ hnew_
                clear hg_ hnew_
                (first | rw [← Ny214.out] at ho35 | (simp only [Int.reduceToNat] at ho35; rw [← Ny214.out] at ho35))
                have HO216 := aq (Kd.R_lower (Kd.R_newB (Kd.R_newB (Kd.R_new' ho35 (Kd.R_lt (rq HO213))) (g := gb203) (o := .cells #[.int .u64 t201, .int .u64 t202] 108 (0, 0)) (bq BK203)) (g := gb210) (o := .cells #[.int .u64 t208, .int .u64 t209] 108 (0, 0)) (bq BK210)) (below_size (bw HB)))
                replace HO213 := aq (Kd.R_elder' (rq HO213) (Kd.R_base ho35) hb)
                replace BK199 := aq (blk_below (bq BK199) hb)
                replace BK203 := aq (blk_below (bq BK203) hb)
                replace BK210 := aq (blk_below (bq BK210) hb)
                replace HB := aq (below_step (bw HB) hb)
                clear hb ho35
                refine hK.out _ _ ⟨bc BK210 0, bc BK210 1⟩ (fun hHeld => ?_)
                clear hK K
                refine nv ?_
                exact norm_ (by simp only [putAll, Act.put, List.setIfInBounds_toArray, List.set_cons_zero, List.set_cons_succ]) (hCont (v212, v215) _ ⟨hHeld, (by (with_reducible repeat (first | apply Kd.R_alloc | apply Kd.R_drewN | apply Kd.R_drew)); exact Kd.R_mono HO213.out (fun _ hk => ⟨hk.2, ⟨hk.1.1.2, hk.1.2⟩⟩)), (by (with_reducible repeat (first | apply Kd.R_alloc | apply Kd.R_drewN | apply Kd.R_drew)); exact Kd.R_mono HO216.out (fun _ hk => ⟨hk.1.1.2, ⟨hk.1.2, hk.2⟩⟩)), (bq BK199), (bq BK203), (bq BK210), (bw HB)⟩)
              · skip
                refine Kd.R_lit_step k108 _ 108 ?hg (N := 53) ?hd (xs := ([(⟨t208, t209⟩ : S108)] : List (S108))) (inner := [.int .u64 t208, .int .u64 t209]) (ok := fun _ => True) (okp := fun _ => True) ?hr ?hp (fun _ hk => hk) trivial (Below.refl _ _) (Nat.le_refl _) (by simp) ?_; (case hd => rfl); (case hg => rfl); (case hr => first | (go_simp; done) | (go_simp; rfl)); (case hp => exact (Reps.c2 (show Kd.M k108 _ _ _ (⟨t208, t209⟩ : S108) [.int .u64 t208, .int .u64 t209] from (k108_mkM _ _ _ (⟨t208, t209⟩ : S108) )) (Reps.none _ _)))
                intro v215 w32 ho33 hb hg_ hnew_
                clear hg_ hnew_
                (first | rw [← Ny214.out] at ho33 | (simp only [Int.reduceToNat] at ho33; rw [← Ny214.out] at ho33))
                have HO216 := aq (Kd.R_lower (Kd.R_newB (Kd.R_newB ho33 (g := gb203) (o := .cells #[.int .u64 t201, .int .u64 t202] 108 (0, 0)) (bq BK203)) (g := gb210) (o := .cells #[.int .u64 t208, .int .u64 t209] 108 (0, 0)) (bq BK210)) (below_size (bw HB)))
                replace BK199 := aq (blk_below (bq BK199) hb)
                replace BK203 := aq (blk_below (bq BK203) hb)
                replace BK210 := aq (blk_below (bq BK210) hb)
                replace HB := aq (below_step (bw HB) hb)
                clear hb ho33
                refine hK.out _ _ ⟨bc BK210 0, bc BK210 1⟩ (fun hHeld => ?_)
                clear hK K
                refine nv ?_
                refine ov1 6 51 HT_ fun K hK => ?_
                refine Kd.R_make0_step k108 _ 108 (by rfl) (N := 51) rfl 130 _ _ rfl ji15 rfl rfl Tryd.underlying130 (.agg #[(.int .u64 0), (.int .u64 0)]) 16 info108 (by decide) (ok := fun _ => True) trivial (of_decide_eq_true (by first | (with_reducible assumption) | assumption)) (Nat.le_trans (Nat.mul_le_mul_right _ (of_decide_eq_true (by first | (with_reducible assumption) | assumption) : ji15.toNat ≤ 17592186044416)) (by omega)) (Below.refl _ _) (Nat.le_refl _) ?_
                intro v212 w34 ho35 hb hg_ hnew_
                clear hg_ hnew_
                (first | rw [← Ny211.out] at ho35 | (simp only [Int.reduceToNat] at ho35; rw [← Ny211.out] at ho35))
                have HO213 := aq (Kd.R_lower (Kd.R_newB (Kd.R_newB (Kd.R_new' ho35 (Kd.R_lt (rq HO216))) (g := gb203) (o := .cells #[.int .u64 t201, .int .u64 t202] 108 (0, 0)) (bq BK203)) (g := gb210) (o := .cells #[.int .u64 t208, .int .u64 t209] 108 (0, 0)) (bq BK210)) (below_size (bw HB)))
                replace HO216 := aq (Kd.R_elder' (rq HO216) (Kd.R_base ho35) hb)
                replace BK199 := aq (blk_below (bq BK199) hb)
                replace BK203 := aq (blk_below (bq BK203) hb)
                replace BK210 := aq (blk_below (bq BK210) hb)
                replace HB := aq (below_step (bw HB) hb)
                clear hb ho35
                refine hK.out _ _ ⟨bc BK210 0, bc BK210 1⟩ (fun hHeld => ?_)
                clear hK K
                refine nv ?_
                exact norm_ (by simp only [putAll, Act.put, List.setIfInBounds_toArray, List.set_cons_zero, List.set_cons_succ]) (hCont (v212, v215) _ ⟨hHeld, (by (with_reducible repeat (first | apply Kd.R_alloc | apply Kd.R_drewN | apply Kd.R_drew)); exact Kd.R_mono HO213.out (fun _ hk => ⟨hk.1.1.2, ⟨hk.1.2, hk.2⟩⟩)), (by (with_reducible repeat (first | apply Kd.R_alloc | apply Kd.R_drewN | apply Kd.R_drew)); exact Kd.R_mono HO216.out (fun _ hk => ⟨hk.2, ⟨hk.1.1.2, hk.1.2⟩⟩)), (bq BK199), (bq BK203), (bq BK210), (bw HB)⟩)
            rintro ⟨v212, v215⟩ w36 ⟨hS_, h0_, h1_, h2_, h3_, h4_, h5_⟩
            have n0_ : Aside0 (Kd.R k108 108 w36 w.heap.size (fun k_ => some k_ ≠ (v215 : Value).ownBlock ∧ k_ ≠ gb203 ∧ k_ ≠ gb210) v212 y211) := ⟨h0_⟩
            have n1_ : Aside0 (Kd.R k108 108 w36 w.heap.size (fun k_ => some k_ ≠ (v212 : Value).ownBlock ∧ k_ ≠ gb203 ∧ k_ ≠ gb210) v215 y214) := ⟨h1_⟩
            have n2_ : Aside0 (w36.heap[gb199]? = some (.cells #[.slice none 0 0, .int .i64 0, .int .i64 0, .int .u64 0, .int .u64 0] 132 (0, 0))) := ⟨h2_⟩
            have n3_ : Aside0 (w36.heap[gb203]? = some (.cells #[.int .u64 t201, .int .u64 t202] 108 (0, 0))) := ⟨h3_⟩
            have n4_ : Aside0 (w36.heap[gb210]? = some (.cells #[.int .u64 t208, .int .u64 t209] 108 (0, 0))) := ⟨h4_⟩
            have n5_ : Aside0 (Below w.heap.size w w36) := ⟨h5_⟩
            clear BK199
            clear BK203
            clear BK210
            clear HB
            clear h0_ h1_ h2_ h3_ h4_ h5_
            have HO213 := n0_
            have HO216 := n1_
            have BK199 := n2_
            have BK203 := n3_
            have BK210 := n4_
            have HB := n5_
            clear n0_ n1_ n2_ n3_ n4_ n5_
            have hHeld : w36.cell? ⟨gb210, 0, none⟩ = some (.int .u64 t208) ∧ w36.cell? ⟨gb210, 1, none⟩ = some (.int .u64 t209) := hS_
            obtain ⟨Ao38, co38, eo38⟩ := Kd.R_slice HO216.out
            (first | subst eo38 | (injection eo38 with f1_ f2_ f3_; have f4_ := f1_.symm; have f5_ := f3_.symm; clear f1_ f2_ f3_; subst f4_; subst f5_))
            refine norm_ (a' := ?_) ?_ ?_
            rotate_left
            · simp only [putAll, Act.put, List.setIfInBounds_toArray, List.set_cons_zero, List.set_cons_succ]
              rfl
            refine ov1 9 54 HT_ fun K hK => ?_
            refine Kd.R_append_rows_step k108 (w0 := w) w.heap.size (by rfl) (.tmp 51) (.tmp 53) 130 108 (.agg #[(.int .u64 0), (.int .u64 0)]) 16 rfl Tryd.underlying130 info108 rfl (by decide) (by omega) v212 y211 y214 _ _ _ (fun k_ => some k_ ≠ (.slice Ao38 y214.length co38 : Value).ownBlock ∧ k_ ≠ gb203 ∧ k_ ≠ gb210) (fun _ => False) rfl rfl ?aO ?aR (fun _ _ h => h) (fun _ h => h.elim) ?aF ?aB ?aS ?aL ?_
            (case aR => repeat (first | exact (Kd.R_reads' HO216.out).2.2 | (with_reducible refine Kd.C_alloc ?_ _) | (with_reducible refine Kd.C_drewN ?_ _) | (with_reducible refine Kd.C_drew ?_)))
            (case aB => exact (bw HB))
            (case aF => exact (fun k_ hk => ⟨Kd.fresh' (Kd.R_lt (rq HO216)) k_ hk, Kd.freshB (g := gb203) (o := .cells #[.int .u64 t201, .int .u64 t202] 108 (0, 0)) (bq BK203) k_ hk, Kd.freshB (g := gb210) (o := .cells #[.int .u64 t208, .int .u64 t209] 108 (0, 0)) (bq BK210) k_ hk⟩))
            (case aO => exact (rq HO213))
            (case aS => exact (below_size (bw HB)))
            (case aL => have := LMc18.out; omega)
            intro v218 w37 ho hb hg hat
            rw [← Ny217.out] at ho
            have HO219 := aq (ho)
            replace BK199 := aq (blk_grown (g := gb199) (o := .cells #[.slice none 0 0, .int .i64 0, .int .i64 0, .int .u64 0, .int .u64 0] 132 (0, 0)) (bq BK199) hg (Kd.R_ne HO213.out BK199.out (by decide)))
            replace BK203 := aq (blk_grown (g := gb203) (o := .cells #[.int .u64 t201, .int .u64 t202] 108 (0, 0)) (bq BK203) hg (Kd.R_away HO213.out (fun _ hk => hk.2.1)))
            replace BK210 := aq (blk_grown (g := gb210) (o := .cells #[.int .u64 t208, .int .u64 t209] 108 (0, 0)) (bq BK210) hg (Kd.R_away HO213.out (fun _ hk => hk.2.2)))
            replace HO216 := aq (Kd.R_after (ok := (fun k_ => k_ ≠ gb203 ∧ k_ ≠ gb210)) (by (with_reducible repeat (first | apply Kd.R_alloc | apply Kd.R_drewN | apply Kd.R_drew)); exact Kd.R_mono HO216.out (fun _ hk => ⟨⟨hk.2.1, hk.2.2⟩, hk.1⟩)) hg hat)
            replace HB := aq (hb)
            clear HO213
            clear ho hb hg hat
            refine hK.out _ _ ⟨bc BK210 0, bc BK210 1⟩ (fun hHeld => ?_)
            clear hK K
            refine nv ?_
            refine pv 10 14 HT_ ?_
            refine done_ (done_of HT_.out (by kernel_rfl)) ?_
            try go_wp2
            (try simp only [Act.put, List.setIfInBounds_toArray, List.set_cons_zero, List.set_cons_succ])
            go_loopg [14] k (fun kq v14 w' => ∃ (x14_1 : List (S108)) (x211000_1 : Int) (x211001_1 : Int), Aside0 (proof_nodes.l0 kq a2 t204 t205 t206 t207 x14_1 t201 t202 x211000_1 x211001_1 = some (r1, r2, r3, r4, r5)) ∧ Aside0 (kq ≤ k) ∧ Aside0 (Kd.R k108 108 w' w.heap.size (fun k_ => k_ ≠ gb203 ∧ k_ ≠ gb210) v14 x14_1) ∧ Aside0 (w'.heap[gb199]? = some (.cells #[(.slice none 0 0), .int .i64 0, .int .i64 0, .int .u64 0, .int .u64 0] 132 (0, 0))) ∧ Aside0 (w'.heap[gb203]? = some (.cells #[.int .u64 t201, .int .u64 t202] 108 (0, 0))) ∧ Aside0 (w'.heap[gb210]? = some (.cells #[.int .u64 x211000_1, .int .u64 x211001_1] 108 (0, 0))) ∧ Aside0 (Below w.heap.size w w'))
            case atStart => exact ⟨(y217), (t208), (t209), H', ⟨Nat.le_refl _⟩, ⟨by (with_reducible repeat (first | apply Kd.R_alloc | apply Kd.R_drewN | apply Kd.R_drew)); exact Kd.R_mono HO219.out (fun _ hk => ⟨hk.2.1, hk.2.2⟩)⟩, ⟨by (with_reducible repeat (first | refine blk_drewN ?_ _ | refine blk_drew ?_ | refine blk_alloc ?_ _)); exact BK199.out⟩, ⟨by (with_reducible repeat (first | refine blk_drewN ?_ _ | refine blk_drew ?_ | refine blk_alloc ?_ _)); exact BK203.out⟩, ⟨by (with_reducible repeat (first | refine blk_drewN ?_ _ | refine blk_drew ?_ | refine blk_alloc ?_ _)); exact BK210.out⟩, ⟨by repeat (first | (with_reducible first | exact HB.out | apply below_alloc | apply pw_below_drewN | apply below_drew1 | refine below_set ?_ GE199.out | refine below_set ?_ GE203.out | refine below_set ?_ GE210.out) | exact HB.out)⟩⟩
            case round =>
              clear H'
              try clear c1
              try clear c2
              try clear p2
              try clear c4
              try clear c4b0
              try clear c4b1
              try clear p6
              try clear c8
              try clear c8b0
              try clear c8b1
              try clear c9
              try clear c10
              try clear c11
              try clear c16
              try clear c16b0
              try clear c16b1
              try clear c17
              try clear c17b0
              try clear c17b1
              try clear c18
              try clear c22
              try clear c27
              try clear c28
              try clear hcz23_0
              try clear hcz23_1
              try clear hcz29_0
              try clear hcz29_1
              try clear hfz23_0
              try clear hfz23_1
              try clear hfz29_0
              try clear hfz29_1
              obtain ⟨x14_1, x211000_1, x211001_1, HA, HK1, HO_14, BK199, BK203, BK210, HB⟩ := hrel
              cases gk with
              | zero => exact absurd HA.out (by simp [proof_nodes.l0])
              | succ k1 =>
                have H := HA.out
                clear HA
                simp only [proof_nodes.l0] at H
                by_cases c39 : x211000_1 < t201
                · rw [if_pos c39] at H
                  have c39b0 : decide (x211000_1 < t201) = true := decide_eq_true c39
                  clear c39
                  replace H := Option.bind_eq_some_iff.mp H
                  obtain ⟨⟨t220, t221⟩, A400, H⟩ := H
                  have A40 := aq A400
                  clear A400
                  obtain ⟨y222, hy222⟩ : ∃ y_ : List (S108), y_ = (([(⟨t220, t221⟩ : S108)] : List (S108))) := ⟨_, rfl⟩
                  replace H : (if x14_1.length + y222.length < 8796093022208 then ((compact_NodeID_Parent.f x211000_1 x211001_1).bind fun bt228 => (proof_nodes.l0 k1 a2 t204 t205 t206 t207 (x14_1 ++ y222) t201 t202 bt228.1 bt228.2)) else (none)) = some (r1, r2, r3, r4, r5) := by first | (rw [hy222]; with_reducible exact H) | (have H2_ := (Option.bind_some _ _).symm.trans H; rw [hy222]; with_reducible exact H2_) | (have H2_ := (Option.bind_some _ _).symm.trans H; with_reducible exact H2_) | with_reducible exact H | (rw [hy222]; exact H) | exact H
                  have Ny222 := aq hy222
                  clear hy222
                  by_cases c41 : x14_1.length + y222.length < 8796093022208
                  · rw [if_pos c41] at H
                    have LMc41 := aq c41
                    clear c41
                    obtain ⟨y225, hy225⟩ : ∃ y_ : List (S108), y_ = (x14_1 ++ y222) := ⟨_, rfl⟩
                    replace H : ((compact_NodeID_Parent.f x211000_1 x211001_1).bind fun bt228 => (proof_nodes.l0 k1 a2 t204 t205 t206 t207 y225 t201 t202 bt228.1 bt228.2)) = some (r1, r2, r3, r4, r5) := by first | (rw [hy225]; with_reducible exact H) | (have H2_ := (Option.bind_some _ _).symm.trans H; rw [hy225]; with_reducible exact H2_) | (have H2_ := (Option.bind_some _ _).symm.trans H; with_reducible exact H2_) | with_reducible exact H | (rw [hy225]; exact H) | exact H
                    have Ny225 := aq hy225
                    clear hy225
                    replace H := Option.bind_eq_some_iff.mp H
                    obtain ⟨⟨t228, t229⟩, A420, H⟩ := H
                    have A42 := aq A420
                    clear A420
                    have H' := aq H
                    clear H
                    have hnb43 := NB210_199.out
                    have hnc43 := NB199_210.out
                    have hnb44 := NB210_203.out
                    have hnc44 := NB203_210.out
                    have hcz45_0 : wr.cell? ⟨gb210, 0, none⟩ = some (.int .u64 x211000_1) := bc BK210 0
                    have hcz45_1 : wr.cell? ⟨gb210, 1, none⟩ = some (.int .u64 x211001_1) := bc BK210 1
                    have hfz45_0 := bz BK210 0
                    have hfz45_1 := bz BK210 1
                    have hnb46 := NB203_199.out
                    have hnc46 := NB199_203.out
                    have hcz47_0 : wr.cell? ⟨gb203, 0, none⟩ = some (.int .u64 t201) := bc BK203 0
                    have hcz47_1 : wr.cell? ⟨gb203, 1, none⟩ = some (.int .u64 t202) := bc BK203 1
                    have hfz47_0 := bz BK203 0
                    have hfz47_1 := bz BK203 1
                    go_wp2_with (first | ((with_reducible refine gate_callee (f := 118) rfl ?_); refine gL 64 Tryd.func118 #[.agg #[.int .u64 x211000_1, .int .u64 x211001_1]] ?_; (with_reducible refine (compact_NodeID_Sibling.calls x211000_1 x211001_1 t220 t221 _ A40.out).mono ?_); rintro e w48 ⟨rfl, hb⟩; refine ⟨_, rfl, ?_⟩; replace HO_14 := aq (Kd.R_below (rq HO_14) hb); replace BK199 := aq (blk_below (bq BK199) hb); replace BK203 := aq (blk_below (bq BK203) hb); replace BK210 := aq (blk_below (bq BK210) hb); replace HB := aq (below_step (bw HB) hb); (try clear hb); (try clear hk)) | ((with_reducible refine gate_dst (N := 65) rfl ?_); refine Kd.R_lit k108 _ 108 ?hg (N := 65) ?hd (xs := ([(⟨t220, t221⟩ : S108)] : List (S108))) (inner := [.int .u64 t220, .int .u64 t221]) (ok := fun _ => True) (okp := fun _ => True) ?hr ?hp (fun _ hk => hk) trivial (Below.refl _ _) (Nat.le_refl _) (by simp) ?_; (case hd => rfl); (case hg => rfl); (case hr => first | (go_simp; done) | (go_simp; rfl)); (case hp => exact (Reps.c2 (show Kd.M k108 _ _ _ (⟨t220, t221⟩ : S108) [.int .u64 t220, .int .u64 t221] from (k108_mkM _ _ _ (⟨t220, t221⟩ : S108) )) (Reps.none _ _))); intro v223 w49 ho50 hb hg_ hnew_; clear hg_ hnew_; (first | rw [← Ny222.out] at ho50 | (simp only [Int.reduceToNat] at ho50; rw [← Ny222.out] at ho50)); have HO224 := aq (Kd.R_lower (Kd.R_newB (Kd.R_newB (Kd.R_new' ho50 (Kd.R_lt (rq HO_14))) (g := gb203) (o := .cells #[.int .u64 t201, .int .u64 t202] 108 (0, 0)) (bq BK203)) (g := gb210) (o := .cells #[.int .u64 x211000_1, .int .u64 x211001_1] 108 (0, 0)) (bq BK210)) (below_size (bw HB))); replace HO_14 := aq (Kd.R_elder' (rq HO_14) (Kd.R_base ho50) hb); replace BK199 := aq (blk_below (bq BK199) hb); replace BK203 := aq (blk_below (bq BK203) hb); replace BK210 := aq (blk_below (bq BK210) hb); replace HB := aq (below_step (bw HB) hb); clear hb ho50; obtain ⟨Ao52, co52, eo52⟩ := Kd.R_slice HO224.out; subst eo52) | ((with_reducible refine gate_builtin (b := .append) (xs := #[.tmp 62, .tmp 65]) rfl ?_); at_builtin; refine Kd.R_append_rows k108 (w0 := w) w.heap.size rfl (.tmp 62) (.tmp 65) 130 108 (.agg #[(.int .u64 0), (.int .u64 0)]) 16 rfl Tryd.underlying130 info108 rfl (by decide) (by omega) u14 x14_1 y222 _ _ _ (fun k_ => some k_ ≠ (.slice Ao52 y222.length co52 : Value).ownBlock ∧ k_ ≠ gb203 ∧ k_ ≠ gb210) (fun _ => False) rfl rfl ?aO ?aR (fun _ _ h => h) (fun _ h => h.elim) ?aF ?aB ?aS ?aL ?_; (case aR => repeat (first | exact (Kd.R_reads' HO224.out).2.2 | (with_reducible refine Kd.C_alloc ?_ _) | (with_reducible refine Kd.C_drewN ?_ _) | (with_reducible refine Kd.C_drew ?_))); (case aB => exact (bw HB)); (case aF => exact (fun k_ hk => ⟨Kd.fresh' (Kd.R_lt (rq HO224)) k_ hk, Kd.freshB (g := gb203) (o := .cells #[.int .u64 t201, .int .u64 t202] 108 (0, 0)) (bq BK203) k_ hk, Kd.freshB (g := gb210) (o := .cells #[.int .u64 x211000_1, .int .u64 x211001_1] 108 (0, 0)) (bq BK210) k_ hk⟩)); (case aO => exact (by (with_reducible repeat (first | apply Kd.R_alloc | apply Kd.R_drewN | apply Kd.R_drew)); exact Kd.R_mono HO_14.out (fun _ hk => ⟨hk.2, ⟨hk.1.1, hk.1.2⟩⟩))); (case aS => exact (below_size (bw HB))); (case aL => have := LMc41.out; omega); intro v226 w51 ho hb hg hat; rw [← Ny225.out] at ho; have HO227 := aq (ho); replace BK199 := aq (blk_grown (g := gb199) (o := .cells #[.slice none 0 0, .int .i64 0, .int .i64 0, .int .u64 0, .int .u64 0] 132 (0, 0)) (bq BK199) hg (Kd.R_ne HO_14.out BK199.out (by decide))); replace BK203 := aq (blk_grown (g := gb203) (o := .cells #[.int .u64 t201, .int .u64 t202] 108 (0, 0)) (bq BK203) hg (Kd.R_away HO_14.out (fun _ hk => hk.1.1))); replace BK210 := aq (blk_grown (g := gb210) (o := .cells #[.int .u64 x211000_1, .int .u64 x211001_1] 108 (0, 0)) (bq BK210) hg (Kd.R_away HO_14.out (fun _ hk => hk.1.2))); replace HO224 := aq (Kd.R_after (ok := (fun k_ => k_ ≠ gb203 ∧ k_ ≠ gb210)) (by (with_reducible repeat (first | apply Kd.R_alloc | apply Kd.R_drewN | apply Kd.R_drew)); exact Kd.R_mono HO224.out (fun _ hk => ⟨⟨hk.1.2, hk.2⟩, hk.1.1.2⟩)) hg hat); replace HB := aq (hb); clear HO_14; clear ho hb hg hat; have hcz53_0 : w51.cell? ⟨gb210, 0, none⟩ = some (.int .u64 x211000_1) := bc BK210 0; have hcz53_1 : w51.cell? ⟨gb210, 1, none⟩ = some (.int .u64 x211001_1) := bc BK210 1; have hfz53_0 := bz BK210 0; have hfz53_1 := bz BK210 1) | ((with_reducible refine gate_callee (f := 68) rfl ?_); refine gL 61 Tryd.func68 #[.agg #[.int .u64 x211000_1, .int .u64 x211001_1]] ?_; (with_reducible refine (compact_NodeID_Parent.calls x211000_1 x211001_1 t228 t229 _ A42.out).mono ?_); rintro e w54 ⟨rfl, hb⟩; refine ⟨_, rfl, ?_⟩; replace HO224 := aq (Kd.R_below (rq HO224) hb); replace HO227 := aq (Kd.R_below (rq HO227) hb); replace BK199 := aq (blk_below (bq BK199) hb); replace BK203 := aq (blk_below (bq BK203) hb); replace BK210 := aq (blk_below (bq BK210) hb); replace HB := aq (below_step (bw HB) hb); (try clear hb); (try clear hk); have hcz55_0 : w54.cell? ⟨gb210, 0, none⟩ = some (.int .u64 x211000_1) := bc BK210 0; have hcz55_1 : w54.cell? ⟨gb210, 1, none⟩ = some (.int .u64 x211001_1) := bc BK210 1; have hfz55_0 := bz BK210 0; have hfz55_1 := bz BK210 1))
                    go_roundg k1
                    case measure => have := HK1.out; omega
                    case rel => exact ⟨(y225), (t228), (t229), H', ⟨by have := HK1.out; omega⟩, ⟨by (with_reducible repeat (first | apply Kd.R_alloc | apply Kd.R_drewN | apply Kd.R_drew)); exact Kd.R_mono (Kd.R_far (p := ⟨gb210, 1, none⟩) (Kd.R_far (p := ⟨gb210, 0, none⟩) (Kd.R_mono HO227.out (fun k_ hk => (⟨hk, hk.2.2⟩ : _ ∧ k_ ≠ gb210))) (fun _ hk => hk.2) (.int .u64 t228)) (fun _ hk => hk.2) (.int .u64 t229)) (fun _ hk => ⟨hk.1.2.1, hk.1.2.2⟩)⟩, ⟨by (with_reducible repeat (first | refine blk_drewN ?_ _ | refine blk_drew ?_ | refine blk_alloc ?_ _)); refine blk_far ?_ NB199_210.out _; (with_reducible repeat (first | refine blk_drewN ?_ _ | refine blk_drew ?_ | refine blk_alloc ?_ _)); refine blk_far ?_ NB199_210.out _; (with_reducible repeat (first | refine blk_drewN ?_ _ | refine blk_drew ?_ | refine blk_alloc ?_ _)); exact BK199.out⟩, ⟨by (with_reducible repeat (first | refine blk_drewN ?_ _ | refine blk_drew ?_ | refine blk_alloc ?_ _)); refine blk_far ?_ NB203_210.out _; (with_reducible repeat (first | refine blk_drewN ?_ _ | refine blk_drew ?_ | refine blk_alloc ?_ _)); refine blk_far ?_ NB203_210.out _; (with_reducible repeat (first | refine blk_drewN ?_ _ | refine blk_drew ?_ | refine blk_alloc ?_ _)); exact BK203.out⟩, ⟨by (with_reducible repeat (first | refine blk_drewN ?_ _ | refine blk_drew ?_ | refine blk_alloc ?_ _)); refine blk_put (cs := #[.int .u64 t228, .int .u64 x211001_1]) ?_ 1 _ rfl; (with_reducible repeat (first | refine blk_drewN ?_ _ | refine blk_drew ?_ | refine blk_alloc ?_ _)); refine blk_put (cs := #[.int .u64 x211000_1, .int .u64 x211001_1]) ?_ 0 _ rfl; (with_reducible repeat (first | refine blk_drewN ?_ _ | refine blk_drew ?_ | refine blk_alloc ?_ _)); exact BK210.out⟩, ⟨by repeat (first | (with_reducible first | exact HB.out | apply below_alloc | apply pw_below_drewN | apply below_drew1 | refine below_set ?_ GE199.out | refine below_set ?_ GE203.out | refine below_set ?_ GE210.out) | exact HB.out)⟩⟩
                  · rw [if_neg c41] at H
                    exact absurd H (by simp)
                · rw [if_neg c39] at H
                  have c39b0 : decide (x211000_1 < t201) = false := decide_eq_false c39
                  clear c39
                  replace H := Option.bind_eq_some_iff.mp H
                  obtain ⟨t230, A560, H⟩ := H
                  have A56 := aq A560
                  clear A560
                  replace H := Option.bind_eq_some_iff.mp H
                  obtain ⟨t233, A570, H⟩ := H
                  have A57 := aq A570
                  clear A570
                  replace H := Option.bind_eq_some_iff.mp H
                  obtain ⟨t234, A580, H⟩ := H
                  have A58 := aq A580
                  clear A580
                  replace H := Option.bind_eq_some_iff.mp H
                  obtain ⟨t237, A590, H⟩ := H
                  have A59 := aq A590
                  clear A590
                  by_cases c60 : (x14_1.length : Int) ≥ (t230.length : Int)
                  · rw [if_pos c60] at H
                    have c60b0 : decide ((t230.length : Int) ≤ (x14_1.length : Int)) = true := decide_eq_true c60
                    have c60b1 : decide (t230.length ≤ x14_1.length) = true := decide_eq_true (Int.ofNat_le.mp c60)
                    clear c60
                    replace H := Option.bind_eq_some_iff.mp H
                    obtain ⟨⟨t238, t239⟩, A610, H⟩ := H
                    have A61 := aq A610
                    clear A610
                    simp only [Option.some.injEq, Prod.mk.injEq] at H
                    obtain ⟨rfl, rfl, rfl, rfl, rfl⟩ := H
                    have hnb62 := NB210_199.out
                    have hnc62 := NB199_210.out
                    have hnb63 := NB210_203.out
                    have hnc63 := NB203_210.out
                    have hcz64_0 : wr.cell? ⟨gb210, 0, none⟩ = some (.int .u64 x211000_1) := bc BK210 0
                    have hcz64_1 : wr.cell? ⟨gb210, 1, none⟩ = some (.int .u64 x211001_1) := bc BK210 1
                    have hfz64_0 := bz BK210 0
                    have hfz64_1 := bz BK210 1
                    have hnb65 := NB203_199.out
                    have hnc65 := NB199_203.out
                    have hcz66_0 : wr.cell? ⟨gb203, 0, none⟩ = some (.int .u64 t201) := bc BK203 0
                    have hcz66_1 : wr.cell? ⟨gb203, 1, none⟩ = some (.int .u64 t202) := bc BK203 1
                    have hfz66_0 := bz BK203 0
                    have hfz66_1 := bz BK203 1
                    obtain ⟨Ao67, co67, eo67⟩ := Kd.R_slice HO_14.out
                    subst eo67
                    go_wp2_with (first | ((with_reducible refine gate_callee (f := 105) rfl ?_); refine gL 72 Tryd.func105 #[.int .u64 t205, .int .u64 a2, .slice Ao67 x14_1.length co67] ?_; (with_reducible refine (compact_RangeNodes.calls k1 t205 a2 (fun k_ => some k_ = (.slice Ao67 x14_1.length co67 : Value).ownBlock) (.slice Ao67 x14_1.length co67) x14_1 t230 w _ ?side1 ?side2 ?side3 A56.out).mono ?_); (case side1 => repeat (first | (with_reducible first | exact HB.out | apply below_alloc | apply pw_below_drewN | apply below_drew1 | refine below_set ?_ GE199.out | refine below_set ?_ GE203.out | refine below_set ?_ GE210.out) | exact HB.out)); (case side2 => exact Kd.R_tight rfl HO_14.out); (case side3 => exact HG.out); rintro e w68 ⟨v231, rfl, ho0, hb, hkp⟩; refine ⟨_, rfl, ?_⟩; have HO232 := aq (Kd.R_mono (ok' := fun k_ => k_ ≠ gb203 ∧ k_ ≠ gb210) ho0 (fun k_ hk_ => ⟨Or.elim hk_ (fun hs_ => fun e_ => (Kd.R_away HO_14.out (fun _ hk => hk.1)) (by rw [← e_]; exact hs_)) (fun hn_ => (Kd.freshB (g := gb203) (o := .cells #[.int .u64 t201, .int .u64 t202] 108 (0, 0)) (bq BK203) k_ hn_)), Or.elim hk_ (fun hs_ => fun e_ => (Kd.R_away HO_14.out (fun _ hk => hk.2)) (by rw [← e_]; exact hs_)) (fun hn_ => (Kd.freshB (g := gb210) (o := .cells #[.int .u64 x211000_1, .int .u64 x211001_1] 108 (0, 0)) (bq BK210) k_ hn_))⟩)); replace BK199 := aq (blk_kept (bq BK199) hkp (fun hs_ => (fun e_ => (Kd.R_ne HO_14.out BK199.out (by decide)) e_) hs_)); replace BK203 := aq (blk_kept (bq BK203) hkp (fun hs_ => (fun e_ => (Kd.R_away HO_14.out (fun _ hk => hk.1)) e_) hs_)); replace BK210 := aq (blk_kept (bq BK210) hkp (fun hs_ => (fun e_ => (Kd.R_away HO_14.out (fun _ hk => hk.2)) e_) hs_)); replace HB := aq (hb); clear HO_14; (try clear hb); (try clear hkp); (try clear ho0); obtain ⟨Ao69, co69, eo69⟩ := Kd.R_slice HO232.out; subst eo69; obtain ⟨i0x69, hi0x69, _, hszx69, _⟩ := info_parts info108; have hcutx69 := cut_from (P := Tryd.prog) 130 108 .i64 Tryd.underlying130 hi0x69 2 hszx69 Ao69 t230.length co69 (wrap64 ((t230.length : Int) - t207)) (proof_revtail.bounds A57.out).1 (proof_revtail.bounds A57.out).2; obtain ⟨AX69, hAX⟩ : ∃ A1 : Option Addr, A1 = (if co69 = ((wrap64 ((t230.length : Int) - t207)) : Int).toNat then Ao69 else (Ao69 : Option Addr).map (·.add (((wrap64 ((t230.length : Int) - t207)) : Int).toNat * 2))) := ⟨_, rfl⟩; rw [← hAX] at hcutx69; have hAX69 := aq hAX; clear hAX hi0x69 hszx69) | ((with_reducible refine gate_callee (f := 119) rfl ?_); refine gL 79 Tryd.func119 #[.slice AX69 (t230.length - ((wrap64 ((t230.length : Int) - t207)) : Int).toNat) (co69 - ((wrap64 ((t230.length : Int) - t207)) : Int).toNat)] ?_; (with_reducible refine (proof_revtail.calls k1 (fun k_ => some k_ = (.slice Ao69 t230.length co69 : Value).ownBlock) Ao69 t230.length co69 t230 (wrap64 ((t230.length : Int) - t207)) t233 w _ AX69 hAX69.out ?side1 ?side2 A57.out).mono ?_); (case side1 => repeat (first | (with_reducible first | exact HB.out | apply below_alloc | apply pw_below_drewN | apply below_drew1 | refine below_set ?_ GE199.out | refine below_set ?_ GE203.out | refine below_set ?_ GE210.out) | exact HB.out)); (case side2 => exact Kd.R_tight rfl HO232.out); rintro e w70 ⟨rfl, hy0, hb, hkp⟩; refine ⟨_, rfl, ?_⟩; replace BK199 := aq (blk_kept (bq BK199) hkp (fun hs_ => (fun e_ => (Kd.R_ne HO232.out BK199.out (by decide)) e_) hs_)); replace BK203 := aq (blk_kept (bq BK203) hkp (fun hs_ => (fun e_ => (Kd.R_away HO232.out (fun _ hk => hk.1)) e_) hs_)); replace BK210 := aq (blk_kept (bq BK210) hkp (fun hs_ => (fun e_ => (Kd.R_away HO232.out (fun _ hk => hk.2)) e_) hs_)); replace HO232 := aq (Kd.R_reok rfl hy0 (fun k_ e_ => HO232.out.1 k_ e_)); replace HB := aq (hb); (try clear hb); (try clear hkp); (try clear hy0)) | ((with_reducible refine gate_callee (f := 105) rfl ?_); refine gL 84 Tryd.func105 #[.int .u64 0, .int .u64 t204, .slice Ao69 t230.length co69] ?_; (with_reducible refine (compact_RangeNodes.calls k1 0 t204 (fun k_ => some k_ = (.slice Ao69 t230.length co69 : Value).ownBlock) (.slice Ao69 t230.length co69) t233 t234 w _ ?side1 ?side2 ?side3 A58.out).mono ?_); (case side1 => repeat (first | (with_reducible first | exact HB.out | apply below_alloc | apply pw_below_drewN | apply below_drew1 | refine below_set ?_ GE199.out | refine below_set ?_ GE203.out | refine below_set ?_ GE210.out) | exact HB.out)); (case side2 => exact Kd.R_tight rfl HO232.out); (case side3 => exact HG.out); rintro e w71 ⟨v235, rfl, ho0, hb, hkp⟩; refine ⟨_, rfl, ?_⟩; have HO236 := aq (Kd.R_mono (ok' := fun k_ => k_ ≠ gb203 ∧ k_ ≠ gb210) ho0 (fun k_ hk_ => ⟨Or.elim hk_ (fun hs_ => fun e_ => (Kd.R_away HO232.out (fun _ hk => hk.1)) (by rw [← e_]; exact hs_)) (fun hn_ => (Kd.freshB (g := gb203) (o := .cells #[.int .u64 t201, .int .u64 t202] 108 (0, 0)) (bq BK203) k_ hn_)), Or.elim hk_ (fun hs_ => fun e_ => (Kd.R_away HO232.out (fun _ hk => hk.2)) (by rw [← e_]; exact hs_)) (fun hn_ => (Kd.freshB (g := gb210) (o := .cells #[.int .u64 x211000_1, .int .u64 x211001_1] 108 (0, 0)) (bq BK210) k_ hn_))⟩)); replace BK199 := aq (blk_kept (bq BK199) hkp (fun hs_ => (fun e_ => (Kd.R_ne HO232.out BK199.out (by decide)) e_) hs_)); replace BK203 := aq (blk_kept (bq BK203) hkp (fun hs_ => (fun e_ => (Kd.R_away HO232.out (fun _ hk => hk.1)) e_) hs_)); replace BK210 := aq (blk_kept (bq BK210) hkp (fun hs_ => (fun e_ => (Kd.R_away HO232.out (fun _ hk => hk.2)) e_) hs_)); replace HB := aq (hb); clear HO232; (try clear hb); (try clear hkp); (try clear ho0); obtain ⟨Ao72, co72, eo72⟩ := Kd.R_slice HO236.out; subst eo72; obtain ⟨i0x72, hi0x72, _, hszx72, _⟩ := info_parts info108; have hcutx72 := cut_from (P := Tryd.prog) 130 108 .i64 Tryd.underlying130 hi0x72 2 hszx72 Ao72 t234.length co72 (wrap64 ((t234.length : Int) - t206)) (proof_revtail.bounds A59.out).1 (proof_revtail.bounds A59.out).2; obtain ⟨AX72, hAX⟩ : ∃ A1 : Option Addr, A1 = (if co72 = ((wrap64 ((t234.length : Int) - t206)) : Int).toNat then Ao72 else (Ao72 : Option Addr).map (·.add (((wrap64 ((t234.length : Int) - t206)) : Int).toNat * 2))) := ⟨_, rfl⟩; rw [← hAX] at hcutx72; have hAX72 := aq hAX; clear hAX hi0x72 hszx72) | ((with_reducible refine gate_callee (f := 119) rfl ?_); refine gL 91 Tryd.func119 #[.slice AX72 (t234.length - ((wrap64 ((t234.length : Int) - t206)) : Int).toNat) (co72 - ((wrap64 ((t234.length : Int) - t206)) : Int).toNat)] ?_; (with_reducible refine (proof_revtail.calls k1 (fun k_ => some k_ = (.slice Ao72 t234.length co72 : Value).ownBlock) Ao72 t234.length co72 t234 (wrap64 ((t234.length : Int) - t206)) t237 w _ AX72 hAX72.out ?side1 ?side2 A59.out).mono ?_); (case side1 => repeat (first | (with_reducible first | exact HB.out | apply below_alloc | apply pw_below_drewN | apply below_drew1 | refine below_set ?_ GE199.out | refine below_set ?_ GE203.out | refine below_set ?_ GE210.out) | exact HB.out)); (case side2 => exact Kd.R_tight rfl HO236.out); rintro e w73 ⟨rfl, hy0, hb, hkp⟩; refine ⟨_, rfl, ?_⟩; replace BK199 := aq (blk_kept (bq BK199) hkp (fun hs_ => (fun e_ => (Kd.R_ne HO236.out BK199.out (by decide)) e_) hs_)); replace BK203 := aq (blk_kept (bq BK203) hkp (fun hs_ => (fun e_ => (Kd.R_away HO236.out (fun _ hk => hk.1)) e_) hs_)); replace BK210 := aq (blk_kept (bq BK210) hkp (fun hs_ => (fun e_ => (Kd.R_away HO236.out (fun _ hk => hk.2)) e_) hs_)); replace HO236 := aq (Kd.R_reok rfl hy0 (fun k_ e_ => HO236.out.1 k_ e_)); replace HB := aq (hb); (try clear hb); (try clear hkp); (try clear hy0); have hcz74_0 : w73.cell? ⟨gb203, 0, none⟩ = some (.int .u64 t201) := bc BK203 0; have hcz74_1 : w73.cell? ⟨gb203, 1, none⟩ = some (.int .u64 t202) := bc BK203 1; have hfz74_0 := bz BK203 0; have hfz74_1 := bz BK203 1) | ((with_reducible refine gate_callee (f := 118) rfl ?_); refine gL 99 Tryd.func118 #[.agg #[.int .u64 t201, .int .u64 t202]] ?_; (with_reducible refine (compact_NodeID_Sibling.calls t201 t202 t238 t239 _ A61.out).mono ?_); rintro e w75 ⟨rfl, hb⟩; refine ⟨_, rfl, ?_⟩; replace HO236 := aq (Kd.R_below (rq HO236) hb); replace BK199 := aq (blk_below (bq BK199) hb); replace BK203 := aq (blk_below (bq BK203) hb); replace BK210 := aq (blk_below (bq BK210) hb); replace HB := aq (below_step (bw HB) hb); (try clear hb); (try clear hk); have hcz76_0 : w75.cell? ⟨gb199, 0, none⟩ = some (.slice none 0 0) := bc BK199 0; have hcz76_1 : w75.cell? ⟨gb199, 1, none⟩ = some (.int .i64 0) := bc BK199 1; have hcz76_2 : w75.cell? ⟨gb199, 2, none⟩ = some (.int .i64 0) := bc BK199 2; have hcz76_3 : w75.cell? ⟨gb199, 3, none⟩ = some (.int .u64 0) := bc BK199 3; have hcz76_4 : w75.cell? ⟨gb199, 4, none⟩ = some (.int .u64 0) := bc BK199 4; have hfz76_0 := bz BK199 0; have hfz76_1 := bz BK199 1; have hfz76_2 := bz BK199 2; have hfz76_3 := bz BK199 3; have hfz76_4 := bz BK199 4))
                    refine bodyPost_ret (results_cell_row rfl _ _ gb199 132 #[.slice Ao72 t234.length co72, .int .i64 0, .int .i64 0, .int .u64 t238, .int .u64 t239] (0, 0) _ rfl (by (with_reducible repeat (first | refine blk_drewN ?_ _ | refine blk_drew ?_ | refine blk_alloc ?_ _)); refine blk_put (cs := #[.slice Ao72 t234.length co72, .int .i64 0, .int .i64 0, .int .u64 t238, .int .u64 0]) ?_ 4 _ rfl; (with_reducible repeat (first | refine blk_drewN ?_ _ | refine blk_drew ?_ | refine blk_alloc ?_ _)); refine blk_put (cs := #[.slice Ao72 t234.length co72, .int .i64 0, .int .i64 0, .int .u64 0, .int .u64 0]) ?_ 3 _ rfl; (with_reducible repeat (first | refine blk_drewN ?_ _ | refine blk_drew ?_ | refine blk_alloc ?_ _)); refine blk_put (cs := #[.slice Ao72 t234.length co72, .int .i64 0, .int .i64 0, .int .u64 0, .int .u64 0]) ?_ 2 _ rfl; (with_reducible repeat (first | refine blk_drewN ?_ _ | refine blk_drew ?_ | refine blk_alloc ?_ _)); refine blk_put (cs := #[.slice Ao72 t234.length co72, .int .i64 0, .int .i64 0, .int .u64 0, .int .u64 0]) ?_ 1 _ rfl; (with_reducible repeat (first | refine blk_drewN ?_ _ | refine blk_drew ?_ | refine blk_alloc ?_ _)); refine blk_put (cs := #[.slice none 0 0, .int .i64 0, .int .i64 0, .int .u64 0, .int .u64 0]) ?_ 0 _ rfl; (with_reducible repeat (first | refine blk_drewN ?_ _ | refine blk_drew ?_ | refine blk_alloc ?_ _)); exact BK199.out) Tryd.underlying132 rfl (by kernel_rfl)) rfl ?_
                    exact ⟨_, by first | rfl | (simp [errW_none, errW_some] <;> rfl) | (simp only [← hji5, ← hji7, ← hji9, ← hji15]; first | rfl | (simp [errW_none, errW_some] <;> rfl)) | (simp [*, errW_none, errW_some] <;> rfl), by (with_reducible repeat (first | apply Kd.R_alloc | apply Kd.R_drewN | apply Kd.R_drew)); exact Kd.R_mono (Kd.R_far (p := ⟨gb199, 4, none⟩) (Kd.R_far (p := ⟨gb199, 3, none⟩) (Kd.R_far (p := ⟨gb199, 2, none⟩) (Kd.R_far (p := ⟨gb199, 1, none⟩) (Kd.R_far (p := ⟨gb199, 0, none⟩) (Kd.R_types HO236.out BK199.out (by decide)) (fun _ hk => hk.2) (.slice Ao72 t234.length co72)) (fun _ hk => hk.2) (.int .i64 0)) (fun _ hk => hk.2) (.int .i64 0)) (fun _ hk => hk.2) (.int .u64 t238)) (fun _ hk => hk.2) (.int .u64 t239)) (fun _ hk => trivial), by repeat (first | (with_reducible first | exact HB.out | apply below_alloc | apply pw_below_drewN | apply below_drew1 | refine below_set ?_ GE199.out | refine below_set ?_ GE203.out | refine below_set ?_ GE210.out) | exact HB.out)⟩
                  · rw [if_neg c60] at H
                    have c60b0 : decide ((t230.length : Int) ≤ (x14_1.length : Int)) = false := decide_eq_false c60
                    have c60b1 : decide (t230.length ≤ x14_1.length) = false := decide_eq_false (fun h => c60 (Int.ofNat_le.mpr h))
                    clear c60
                    replace H := Option.bind_eq_some_iff.mp H
                    obtain ⟨⟨t240, t241⟩, A770, H⟩ := H
                    have A77 := aq A770
                    clear A770
                    simp only [Option.some.injEq, Prod.mk.injEq] at H
                    obtain ⟨rfl, rfl, rfl, rfl, rfl⟩ := H
                    have hnb78 := NB210_199.out
                    have hnc78 := NB199_210.out
                    have hnb79 := NB210_203.out
                    have hnc79 := NB203_210.out
                    have hcz80_0 : wr.cell? ⟨gb210, 0, none⟩ = some (.int .u64 x211000_1) := bc BK210 0
                    have hcz80_1 : wr.cell? ⟨gb210, 1, none⟩ = some (.int .u64 x211001_1) := bc BK210 1
                    have hfz80_0 := bz BK210 0
                    have hfz80_1 := bz BK210 1
                    have hnb81 := NB203_199.out
                    have hnc81 := NB199_203.out
                    have hcz82_0 : wr.cell? ⟨gb203, 0, none⟩ = some (.int .u64 t201) := bc BK203 0
                    have hcz82_1 : wr.cell? ⟨gb203, 1, none⟩ = some (.int .u64 t202) := bc BK203 1
                    have hfz82_0 := bz BK203 0
                    have hfz82_1 := bz BK203 1
                    obtain ⟨Ao83, co83, eo83⟩ := Kd.R_slice HO_14.out
                    subst eo83
                    go_wp2_with (first | ((with_reducible refine gate_callee (f := 105) rfl ?_); refine gL 72 Tryd.func105 #[.int .u64 t205, .int .u64 a2, .slice Ao83 x14_1.length co83] ?_; (with_reducible refine (compact_RangeNodes.calls k1 t205 a2 (fun k_ => some k_ = (.slice Ao83 x14_1.length co83 : Value).ownBlock) (.slice Ao83 x14_1.length co83) x14_1 t230 w _ ?side1 ?side2 ?side3 A56.out).mono ?_); (case side1 => repeat (first | (with_reducible first | exact HB.out | apply below_alloc | apply pw_below_drewN | apply below_drew1 | refine below_set ?_ GE199.out | refine below_set ?_ GE203.out | refine below_set ?_ GE210.out) | exact HB.out)); (case side2 => exact Kd.R_tight rfl HO_14.out); (case side3 => exact HG.out); rintro e w84 ⟨v231, rfl, ho0, hb, hkp⟩; refine ⟨_, rfl, ?_⟩; have HO232 := aq (Kd.R_mono (ok' := fun k_ => k_ ≠ gb203 ∧ k_ ≠ gb210) ho0 (fun k_ hk_ => ⟨Or.elim hk_ (fun hs_ => fun e_ => (Kd.R_away HO_14.out (fun _ hk => hk.1)) (by rw [← e_]; exact hs_)) (fun hn_ => (Kd.freshB (g := gb203) (o := .cells #[.int .u64 t201, .int .u64 t202] 108 (0, 0)) (bq BK203) k_ hn_)), Or.elim hk_ (fun hs_ => fun e_ => (Kd.R_away HO_14.out (fun _ hk => hk.2)) (by rw [← e_]; exact hs_)) (fun hn_ => (Kd.freshB (g := gb210) (o := .cells #[.int .u64 x211000_1, .int .u64 x211001_1] 108 (0, 0)) (bq BK210) k_ hn_))⟩)); replace BK199 := aq (blk_kept (bq BK199) hkp (fun hs_ => (fun e_ => (Kd.R_ne HO_14.out BK199.out (by decide)) e_) hs_)); replace BK203 := aq (blk_kept (bq BK203) hkp (fun hs_ => (fun e_ => (Kd.R_away HO_14.out (fun _ hk => hk.1)) e_) hs_)); replace BK210 := aq (blk_kept (bq BK210) hkp (fun hs_ => (fun e_ => (Kd.R_away HO_14.out (fun _ hk => hk.2)) e_) hs_)); replace HB := aq (hb); clear HO_14; (try clear hb); (try clear hkp); (try clear ho0); obtain ⟨Ao85, co85, eo85⟩ := Kd.R_slice HO232.out; subst eo85; obtain ⟨i0x85, hi0x85, _, hszx85, _⟩ := info_parts info108; have hcutx85 := cut_from (P := Tryd.prog) 130 108 .i64 Tryd.underlying130 hi0x85 2 hszx85 Ao85 t230.length co85 (wrap64 ((t230.length : Int) - t207)) (proof_revtail.bounds A57.out).1 (proof_revtail.bounds A57.out).2; obtain ⟨AX85, hAX⟩ : ∃ A1 : Option Addr, A1 = (if co85 = ((wrap64 ((t230.length : Int) - t207)) : Int).toNat then Ao85 else (Ao85 : Option Addr).map (·.add (((wrap64 ((t230.length : Int) - t207)) : Int).toNat * 2))) := ⟨_, rfl⟩; rw [← hAX] at hcutx85; have hAX85 := aq hAX; clear hAX hi0x85 hszx85) | ((with_reducible refine gate_callee (f := 119) rfl ?_); refine gL 79 Tryd.func119 #[.slice AX85 (t230.length - ((wrap64 ((t230.length : Int) - t207)) : Int).toNat) (co85 - ((wrap64 ((t230.length : Int) - t207)) : Int).toNat)] ?_; (with_reducible refine (proof_revtail.calls k1 (fun k_ => some k_ = (.slice Ao85 t230.length co85 : Value).ownBlock) Ao85 t230.length co85 t230 (wrap64 ((t230.length : Int) - t207)) t233 w _ AX85 hAX85.out ?side1 ?side2 A57.out).mono ?_); (case side1 => repeat (first | (with_reducible first | exact HB.out | apply below_alloc | apply pw_below_drewN | apply below_drew1 | refine below_set ?_ GE199.out | refine below_set ?_ GE203.out | refine below_set ?_ GE210.out) | exact HB.out)); (case side2 => exact Kd.R_tight rfl HO232.out); rintro e w86 ⟨rfl, hy0, hb, hkp⟩; refine ⟨_, rfl, ?_⟩; replace BK199 := aq (blk_kept (bq BK199) hkp (fun hs_ => (fun e_ => (Kd.R_ne HO232.out BK199.out (by decide)) e_) hs_)); replace BK203 := aq (blk_kept (bq BK203) hkp (fun hs_ => (fun e_ => (Kd.R_away HO232.out (fun _ hk => hk.1)) e_) hs_)); replace BK210 := aq (blk_kept (bq BK210) hkp (fun hs_ => (fun e_ => (Kd.R_away HO232.out (fun _ hk => hk.2)) e_) hs_)); replace HO232 := aq (Kd.R_reok rfl hy0 (fun k_ e_ => HO232.out.1 k_ e_)); replace HB := aq (hb); (try clear hb); (try clear hkp); (try clear hy0)) | ((with_reducible refine gate_callee (f := 105) rfl ?_); refine gL 84 Tryd.func105 #[.int .u64 0, .int .u64 t204, .slice Ao85 t230.length co85] ?_; (with_reducible refine (compact_RangeNodes.calls k1 0 t204 (fun k_ => some k_ = (.slice Ao85 t230.length co85 : Value).ownBlock) (.slice Ao85 t230.length co85) t233 t234 w _ ?side1 ?side2 ?side3 A58.out).mono ?_); (case side1 => repeat (first | (with_reducible first | exact HB.out | apply below_alloc | apply pw_below_drewN | apply below_drew1 | refine below_set ?_ GE199.out | refine below_set ?_ GE203.out | refine below_set ?_ GE210.out) | exact HB.out)); (case side2 => exact Kd.R_tight rfl HO232.out); (case side3 => exact HG.out); rintro e w87 ⟨v235, rfl, ho0, hb, hkp⟩; refine ⟨_, rfl, ?_⟩; have HO236 := aq (Kd.R_mono (ok' := fun k_ => k_ ≠ gb203 ∧ k_ ≠ gb210) ho0 (fun k_ hk_ => ⟨Or.elim hk_ (fun hs_ => fun e_ => (Kd.R_away HO232.out (fun _ hk => hk.1)) (by rw [← e_]; exact hs_)) (fun hn_ => (Kd.freshB (g := gb203) (o := .cells #[.int .u64 t201, .int .u64 t202] 108 (0, 0)) (bq BK203) k_ hn_)), Or.elim hk_ (fun hs_ => fun e_ => (Kd.R_away HO232.out (fun _ hk => hk.2)) (by rw [← e_]; exact hs_)) (fun hn_ => (Kd.freshB (g := gb210) (o := .cells #[.int .u64 x211000_1, .int .u64 x211001_1] 108 (0, 0)) (bq BK210) k_ hn_))⟩)); replace BK199 := aq (blk_kept (bq BK199) hkp (fun hs_ => (fun e_ => (Kd.R_ne HO232.out BK199.out (by decide)) e_) hs_)); replace BK203 := aq (blk_kept (bq BK203) hkp (fun hs_ => (fun e_ => (Kd.R_away HO232.out (fun _ hk => hk.1)) e_) hs_)); replace BK210 := aq (blk_kept (bq BK210) hkp (fun hs_ => (fun e_ => (Kd.R_away HO232.out (fun _ hk => hk.2)) e_) hs_)); replace HB := aq (hb); clear HO232; (try clear hb); (try clear hkp); (try clear ho0); obtain ⟨Ao88, co88, eo88⟩ := Kd.R_slice HO236.out; subst eo88; obtain ⟨i0x88, hi0x88, _, hszx88, _⟩ := info_parts info108; have hcutx88 := cut_from (P := Tryd.prog) 130 108 .i64 Tryd.underlying130 hi0x88 2 hszx88 Ao88 t234.length co88 (wrap64 ((t234.length : Int) - t206)) (proof_revtail.bounds A59.out).1 (proof_revtail.bounds A59.out).2; obtain ⟨AX88, hAX⟩ : ∃ A1 : Option Addr, A1 = (if co88 = ((wrap64 ((t234.length : Int) - t206)) : Int).toNat then Ao88 else (Ao88 : Option Addr).map (·.add (((wrap64 ((t234.length : Int) - t206)) : Int).toNat * 2))) := ⟨_, rfl⟩; rw [← hAX] at hcutx88; have hAX88 := aq hAX; clear hAX hi0x88 hszx88) | ((with_reducible refine gate_callee (f := 119) rfl ?_); refine gL 91 Tryd.func119 #[.slice AX88 (t234.length - ((wrap64 ((t234.length : Int) - t206)) : Int).toNat) (co88 - ((wrap64 ((t234.length : Int) - t206)) : Int).toNat)] ?_; (with_reducible refine (proof_revtail.calls k1 (fun k_ => some k_ = (.slice Ao88 t234.length co88 : Value).ownBlock) Ao88 t234.length co88 t234 (wrap64 ((t234.length : Int) - t206)) t237 w _ AX88 hAX88.out ?side1 ?side2 A59.out).mono ?_); (case side1 => repeat (first | (with_reducible first | exact HB.out | apply below_alloc | apply pw_below_drewN | apply below_drew1 | refine below_set ?_ GE199.out | refine below_set ?_ GE203.out | refine below_set ?_ GE210.out) | exact HB.out)); (case side2 => exact Kd.R_tight rfl HO236.out); rintro e w89 ⟨rfl, hy0, hb, hkp⟩; refine ⟨_, rfl, ?_⟩; replace BK199 := aq (blk_kept (bq BK199) hkp (fun hs_ => (fun e_ => (Kd.R_ne HO236.out BK199.out (by decide)) e_) hs_)); replace BK203 := aq (blk_kept (bq BK203) hkp (fun hs_ => (fun e_ => (Kd.R_away HO236.out (fun _ hk => hk.1)) e_) hs_)); replace BK210 := aq (blk_kept (bq BK210) hkp (fun hs_ => (fun e_ => (Kd.R_away HO236.out (fun _ hk => hk.2)) e_) hs_)); replace HO236 := aq (Kd.R_reok rfl hy0 (fun k_ e_ => HO236.out.1 k_ e_)); replace HB := aq (hb); (try clear hb); (try clear hkp); (try clear hy0); have hcz90_0 : w89.cell? ⟨gb203, 0, none⟩ = some (.int .u64 t201) := bc BK203 0; have hcz90_1 : w89.cell? ⟨gb203, 1, none⟩ = some (.int .u64 t202) := bc BK203 1; have hfz90_0 := bz BK203 0; have hfz90_1 := bz BK203 1) | ((with_reducible refine gate_callee (f := 118) rfl ?_); refine gL 99 Tryd.func118 #[.agg #[.int .u64 t201, .int .u64 t202]] ?_; (with_reducible refine (compact_NodeID_Sibling.calls t201 t202 t240 t241 _ A77.out).mono ?_); rintro e w91 ⟨rfl, hb⟩; refine ⟨_, rfl, ?_⟩; replace HO236 := aq (Kd.R_below (rq HO236) hb); replace BK199 := aq (blk_below (bq BK199) hb); replace BK203 := aq (blk_below (bq BK203) hb); replace BK210 := aq (blk_below (bq BK210) hb); replace HB := aq (below_step (bw HB) hb); (try clear hb); (try clear hk); have hcz92_0 : w91.cell? ⟨gb199, 0, none⟩ = some (.slice none 0 0) := bc BK199 0; have hcz92_1 : w91.cell? ⟨gb199, 1, none⟩ = some (.int .i64 0) := bc BK199 1; have hcz92_2 : w91.cell? ⟨gb199, 2, none⟩ = some (.int .i64 0) := bc BK199 2; have hcz92_3 : w91.cell? ⟨gb199, 3, none⟩ = some (.int .u64 0) := bc BK199 3; have hcz92_4 : w91.cell? ⟨gb199, 4, none⟩ = some (.int .u64 0) := bc BK199 4; have hfz92_0 := bz BK199 0; have hfz92_1 := bz BK199 1; have hfz92_2 := bz BK199 2; have hfz92_3 := bz BK199 3; have hfz92_4 := bz BK199 4))
                    refine bodyPost_ret (results_cell_row rfl _ _ gb199 132 #[.slice Ao88 t234.length co88, .int .i64 (x14_1.length : Int), .int .i64 (t230.length : Int), .int .u64 t240, .int .u64 t241] (0, 0) _ rfl (by (with_reducible repeat (first | refine blk_drewN ?_ _ | refine blk_drew ?_ | refine blk_alloc ?_ _)); refine blk_put (cs := #[.slice Ao88 t234.length co88, .int .i64 (x14_1.length : Int), .int .i64 (t230.length : Int), .int .u64 t240, .int .u64 0]) ?_ 4 _ rfl; (with_reducible repeat (first | refine blk_drewN ?_ _ | refine blk_drew ?_ | refine blk_alloc ?_ _)); refine blk_put (cs := #[.slice Ao88 t234.length co88, .int .i64 (x14_1.length : Int), .int .i64 (t230.length : Int), .int .u64 0, .int .u64 0]) ?_ 3 _ rfl; (with_reducible repeat (first | refine blk_drewN ?_ _ | refine blk_drew ?_ | refine blk_alloc ?_ _)); refine blk_put (cs := #[.slice Ao88 t234.length co88, .int .i64 (x14_1.length : Int), .int .i64 0, .int .u64 0, .int .u64 0]) ?_ 2 _ rfl; (with_reducible repeat (first | refine blk_drewN ?_ _ | refine blk_drew ?_ | refine blk_alloc ?_ _)); refine blk_put (cs := #[.slice Ao88 t234.length co88, .int .i64 0, .int .i64 0, .int .u64 0, .int .u64 0]) ?_ 1 _ rfl; (with_reducible repeat (first | refine blk_drewN ?_ _ | refine blk_drew ?_ | refine blk_alloc ?_ _)); refine blk_put (cs := #[.slice none 0 0, .int .i64 0, .int .i64 0, .int .u64 0, .int .u64 0]) ?_ 0 _ rfl; (with_reducible repeat (first | refine blk_drewN ?_ _ | refine blk_drew ?_ | refine blk_alloc ?_ _)); exact BK199.out) Tryd.underlying132 rfl (by kernel_rfl)) rfl ?_
                    exact ⟨_, by first | rfl | (simp [errW_none, errW_some] <;> rfl) | (simp only [← hji5, ← hji7, ← hji9, ← hji15]; first | rfl | (simp [errW_none, errW_some] <;> rfl)) | (simp [*, errW_none, errW_some] <;> rfl), by (with_reducible repeat (first | apply Kd.R_alloc | apply Kd.R_drewN | apply Kd.R_drew)); exact Kd.R_mono (Kd.R_far (p := ⟨gb199, 4, none⟩) (Kd.R_far (p := ⟨gb199, 3, none⟩) (Kd.R_far (p := ⟨gb199, 2, none⟩) (Kd.R_far (p := ⟨gb199, 1, none⟩) (Kd.R_far (p := ⟨gb199, 0, none⟩) (Kd.R_types HO236.out BK199.out (by decide)) (fun _ hk => hk.2) (.slice Ao88 t234.length co88)) (fun _ hk => hk.2) (.int .i64 (x14_1.length : Int))) (fun _ hk => hk.2) (.int .i64 (t230.length : Int))) (fun _ hk => hk.2) (.int .u64 t240)) (fun _ hk => hk.2) (.int .u64 t241)) (fun _ hk => trivial), by repeat (first | (with_reducible first | exact HB.out | apply below_alloc | apply pw_below_drewN | apply below_drew1 | refine below_set ?_ GE199.out | refine below_set ?_ GE203.out | refine below_set ?_ GE210.out) | exact HB.out)⟩
          · rw [if_neg c18] at H
            exact absurd H (by simp)
        · rw [if_neg c17] at H
          exact absurd H (by simp)
      · rw [if_neg c16] at H
        exact absurd H (by simp)
    · rw [if_neg c8] at H
      exact absurd H (by simp)
  · rw [if_neg c4] at H
    exact absurd H (by simp)
def proof_Nodes_skipFirst.f (l0_0 : List (S108)) (a0_1 : Int) (a0_2 : Int) (a0_3 : Int) (a0_4 : Int) : Option ((List (S108)) × Int × Int × Int × Int) := if 1 ≤ (l0_0.length : Int) then ((some (l0_0.drop (1 : Int).toNat : List (S108))).bind fun y244 => (if a0_1 < a0_2 then (some (y244, wrap64 (a0_1 - 1), wrap64 (a0_2 - 1), a0_3, a0_4)) else (some (y244, a0_1, a0_2, a0_3, a0_4)))) else (none)
set_option maxHeartbeats 8000000 in
set_option maxRecDepth 100000 in
theorem proof_Nodes_skipFirst.calls (P0_0_ : Nat → Prop) (u9000_ : Value) (l0_0 : List (S108)) (a0_1 : Int) (a0_2 : Int) (a0_3 : Int) (a0_4 : Int) (r1 : List (S108)) (r2 : Int) (r3 : Int) (r4 : Int) (r5 : Int) (w0 w : World) (hB : Below w0.heap.size w0 w) (ho0_0 : Kd.R k108 108 w w0.heap.size P0_0_ u9000_ l0_0) (h : proof_Nodes_skipFirst.f l0_0 a0_1 a0_2 a0_3 a0_4 = some (r1, r2, r3, r4, r5)) :
    Calls Tryd.prog 109 #[.agg #[u9000_, .int .i64 a0_1, .int .i64 a0_2, .int .u64 a0_3, .int .u64 a0_4]] w fun e w' => ∃ v0_ : Value, e = .returned (.agg #[v0_, .int .i64 r2, .int .i64 r3, .int .u64 r4, .int .u64 r5]) ∧ Kd.Q k108 108 w' w0.heap.size (fun k_ => (P0_0_ k_ ∨ w.heap.size ≤ k_)) v0_ r1 ∧ Below w0.heap.size w0 w' ∧ Kept w w' (fun k_ => P0_0_ k_) := by
  have hu132 := Tryd.underlying132
  have HO0_0 := aq (show Kd.R k108 108 w w0.heap.size (fun k_ => (P0_0_ k_ ∨ w.heap.size ≤ k_)) u9000_ l0_0 from Kd.R_mono ho0_0 (fun k_ hk => (.inl hk)))
  have HK := aq (Kept.refl w (fun k_ => P0_0_ k_))
  have HW0 := aq hB.size
  have HB := aq hB
  clear hB
  have H : (if 1 ≤ (l0_0.length : Int) then ((some (l0_0.drop (1 : Int).toNat : List (S108))).bind fun y244 => (if a0_1 < a0_2 then (some (y244, wrap64 (a0_1 - 1), wrap64 (a0_2 - 1), a0_3, a0_4)) else (some (y244, a0_1, a0_2, a0_3, a0_4)))) else (none)) = some (r1, r2, r3, r4, r5) := h
  clear h
  by_cases c2 : 1 ≤ (l0_0.length : Int)
  · rw [if_pos c2] at H
    have c2b0 := eq_true c2
    have c2b1 : decide (1 ≤ (l0_0.length : Int)) = true := decide_eq_true c2
    clear c2
    obtain ⟨y244, hy244⟩ : ∃ y_ : List (S108), y_ = (l0_0.drop (1 : Int).toNat) := ⟨_, rfl⟩
    replace H : (if a0_1 < a0_2 then (some (y244, wrap64 (a0_1 - 1), wrap64 (a0_2 - 1), a0_3, a0_4)) else (some (y244, a0_1, a0_2, a0_3, a0_4))) = some (r1, r2, r3, r4, r5) := by first | (rw [hy244]; with_reducible exact H) | (have H2_ := (Option.bind_some _ _).symm.trans H; rw [hy244]; with_reducible exact H2_) | (have H2_ := (Option.bind_some _ _).symm.trans H; with_reducible exact H2_) | with_reducible exact H | (rw [hy244]; exact H) | exact H
    have Ny244 := aq hy244
    clear hy244
    by_cases c3 : a0_1 < a0_2
    · rw [if_pos c3] at H
      have c3b0 : decide (a0_1 < a0_2) = true := decide_eq_true c3
      clear c3
      simp only [Option.some.injEq, Prod.mk.injEq] at H
      obtain ⟨rfl, rfl, rfl, rfl, rfl⟩ := H
      obtain ⟨Ao4, co4, eo4⟩ := Kd.R_slice HO0_0.out
      subst eo4
      go_enter Tryd.func109, Tryd.ntmps109
      go_wp2_with (first | ((with_reducible refine gate_dst (N := 1) rfl ?_); refine be 1 #[.slice Ao4 l0_0.length co4, .int .i64 a0_1, .int .i64 a0_2, .int .u64 a0_3, .int .u64 a0_4] 132 ?_; intro gb242 hg w5 hbox hb; have BK242 := aq (hbox); have GW242 := aq ((by rw [hg]; exact (by first | exact HK.out.1 | exact (show Kept w _ (fun k_ => P0_0_ k_) from by repeat (first | (with_reducible first | exact HK.out | apply Kept.alloc | apply Kept.drewN | apply Kept.drew) | exact HK.out)).1) : w.heap.size ≤ gb242)); have GE242 := aq ((by rw [hg]; exact (below_size (bw HB)) : w0.heap.size ≤ gb242)); replace HO0_0 := aq (Kd.R_below (rq HO0_0) hb); replace HK := aq (Kept.below (S := (fun k_ => P0_0_ k_)) (by repeat (first | (with_reducible first | exact HK.out | apply Kept.alloc | apply Kept.drewN | apply Kept.drew) | exact HK.out)) hb); replace HB := aq (below_step (bw HB) hb); clear hb hbox hg) | ((with_reducible refine gate_dst (N := 2) rfl ?_); refine be 2 #[.slice none 0 0, .int .i64 0, .int .i64 0, .int .u64 0, .int .u64 0] 132 ?_; intro gb243 hg w6 hbox hb; have BK243 := aq (hbox); have GW243 := aq ((by rw [hg]; exact (by first | exact HK.out.1 | exact (show Kept w _ (fun k_ => P0_0_ k_) from by repeat (first | (with_reducible first | exact HK.out | apply Kept.alloc | apply Kept.drewN | apply Kept.drew | refine Kept.setCell ?_ (.inr GW242.out) _) | exact HK.out)).1) : w.heap.size ≤ gb243)); have GE243 := aq ((by rw [hg]; exact (below_size (bw HB)) : w0.heap.size ≤ gb243)); have NB242_243 := aq ((by rw [hg]; exact Nat.ne_of_lt (blk_lt (g := gb242) (o := .cells #[.slice Ao4 l0_0.length co4, .int .i64 a0_1, .int .i64 a0_2, .int .u64 a0_3, .int .u64 a0_4] 132 (0, 0)) (bq BK242)) : gb242 ≠ gb243)); have NB243_242 := aq ((by rw [hg]; exact Nat.ne_of_gt (blk_lt (g := gb242) (o := .cells #[.slice Ao4 l0_0.length co4, .int .i64 a0_1, .int .i64 a0_2, .int .u64 a0_3, .int .u64 a0_4] 132 (0, 0)) (bq BK242)) : gb243 ≠ gb242)); replace HO0_0 := aq (Kd.R_below (rq HO0_0) hb); replace BK242 := aq (blk_below (bq BK242) hb); replace HK := aq (Kept.below (S := (fun k_ => P0_0_ k_)) (by repeat (first | (with_reducible first | exact HK.out | apply Kept.alloc | apply Kept.drewN | apply Kept.drew | refine Kept.setCell ?_ (.inr GW242.out) _) | exact HK.out)) hb); replace HB := aq (below_step (bw HB) hb); clear hb hbox hg; have hnb7 := NB242_243.out; have hnc7 := NB243_242.out; have hcz8_0 : w6.cell? ⟨gb242, 0, none⟩ = some (.slice Ao4 l0_0.length co4) := bc BK242 0; have hcz8_1 : w6.cell? ⟨gb242, 1, none⟩ = some (.int .i64 a0_1) := bc BK242 1; have hcz8_2 : w6.cell? ⟨gb242, 2, none⟩ = some (.int .i64 a0_2) := bc BK242 2; have hcz8_3 : w6.cell? ⟨gb242, 3, none⟩ = some (.int .u64 a0_3) := bc BK242 3; have hcz8_4 : w6.cell? ⟨gb242, 4, none⟩ = some (.int .u64 a0_4) := bc BK242 4; have hfz8_0 := bz BK242 0; have hfz8_1 := bz BK242 1; have hfz8_2 := bz BK242 2; have hfz8_3 := bz BK242 3; have hfz8_4 := bz BK242 4; have q9 : (1 : Int) ≤ ((l0_0.length : Int) : Int) := of_decide_eq_true (by first | (with_reducible assumption) | assumption); obtain ⟨i09, hi09, _, hsz9, _⟩ := info_parts info108; have hcut9 := cut_from (P := Tryd.prog) 130 108 .i64 Tryd.underlying130 hi09 2 hsz9 Ao4 l0_0.length co4 1 (by omega) q9; have hr9 := Kd.Q_drop (k := (1 : Int).toNat) (Kd.Q_of_R HO0_0.out) (by omega); obtain ⟨A9, hA9⟩ : ∃ A1, A1 = (if co4 = (1 : Int).toNat then Ao4 else (Ao4 : Option Addr).map (·.add ((1 : Int).toNat * 2))) := ⟨_, rfl⟩; obtain ⟨c9, hc9⟩ : ∃ c1, c1 = co4 - (1 : Int).toNat := ⟨_, rfl⟩; have hy9 : y244.length = l0_0.length - (1 : Int).toNat := (by rw [Ny244.out, List.length_drop]); rw [← Ny244.out] at hr9; rw [← hy9, ← hA9, ← hc9] at hcut9; replace hr9 : Kd.Q k108 108 w6 w0.heap.size (fun k_ => (P0_0_ k_ ∨ w.heap.size ≤ k_)) (.slice A9 y244.length c9) y244 := (by rw [hA9, hc9, hy9]; exact hr9); have HE9 : Aside0 ((Value.slice A9 y244.length c9).ownBlock = (.slice Ao4 l0_0.length co4 : Value).ownBlock) := ⟨by rw [hA9]; split <;> (cases (Ao4 : Option Addr) <;> rfl)⟩; clear hy9 hi09 hsz9 HO0_0 hA9 hc9; have HO246 := aq hr9; clear hr9; replace q9 := eq_true q9; have hcz10_0 : w6.cell? ⟨gb243, 0, none⟩ = some (.slice none 0 0) := bc BK243 0; have hcz10_1 : w6.cell? ⟨gb243, 1, none⟩ = some (.int .i64 0) := bc BK243 1; have hcz10_2 : w6.cell? ⟨gb243, 2, none⟩ = some (.int .i64 0) := bc BK243 2; have hcz10_3 : w6.cell? ⟨gb243, 3, none⟩ = some (.int .u64 0) := bc BK243 3; have hcz10_4 : w6.cell? ⟨gb243, 4, none⟩ = some (.int .u64 0) := bc BK243 4; have hfz10_0 := bz BK243 0; have hfz10_1 := bz BK243 1; have hfz10_2 := bz BK243 2; have hfz10_3 := bz BK243 3; have hfz10_4 := bz BK243 4))
      refine bodyPost_ret (results_cell_row rfl _ _ gb243 132 #[.slice A9 y244.length c9, .int .i64 (wrap64 (a0_1 - 1)), .int .i64 (wrap64 (a0_2 - 1)), .int .u64 a0_3, .int .u64 a0_4] (0, 0) _ rfl (by (with_reducible repeat (first | refine blk_drewN ?_ _ | refine blk_drew ?_ | refine blk_alloc ?_ _)); refine blk_put (cs := #[.slice A9 y244.length c9, .int .i64 (wrap64 (a0_1 - 1)), .int .i64 (wrap64 (a0_2 - 1)), .int .u64 a0_3, .int .u64 0]) ?_ 4 _ rfl; (with_reducible repeat (first | refine blk_drewN ?_ _ | refine blk_drew ?_ | refine blk_alloc ?_ _)); refine blk_put (cs := #[.slice A9 y244.length c9, .int .i64 (wrap64 (a0_1 - 1)), .int .i64 (wrap64 (a0_2 - 1)), .int .u64 0, .int .u64 0]) ?_ 3 _ rfl; (with_reducible repeat (first | refine blk_drewN ?_ _ | refine blk_drew ?_ | refine blk_alloc ?_ _)); refine blk_put (cs := #[.slice A9 y244.length c9, .int .i64 (wrap64 (a0_1 - 1)), .int .i64 0, .int .u64 0, .int .u64 0]) ?_ 2 _ rfl; (with_reducible repeat (first | refine blk_drewN ?_ _ | refine blk_drew ?_ | refine blk_alloc ?_ _)); refine blk_put (cs := #[.slice A9 y244.length c9, .int .i64 0, .int .i64 0, .int .u64 0, .int .u64 0]) ?_ 1 _ rfl; (with_reducible repeat (first | refine blk_drewN ?_ _ | refine blk_drew ?_ | refine blk_alloc ?_ _)); refine blk_put (cs := #[.slice none 0 0, .int .i64 0, .int .i64 0, .int .u64 0, .int .u64 0]) ?_ 0 _ rfl; (with_reducible repeat (first | refine blk_drewN ?_ _ | refine blk_drew ?_ | refine blk_alloc ?_ _)); refine blk_far ?_ NB243_242.out _; (with_reducible repeat (first | refine blk_drewN ?_ _ | refine blk_drew ?_ | refine blk_alloc ?_ _)); refine blk_far ?_ NB243_242.out _; (with_reducible repeat (first | refine blk_drewN ?_ _ | refine blk_drew ?_ | refine blk_alloc ?_ _)); refine blk_far ?_ NB243_242.out _; (with_reducible repeat (first | refine blk_drewN ?_ _ | refine blk_drew ?_ | refine blk_alloc ?_ _)); exact BK243.out) Tryd.underlying132 rfl (by kernel_rfl)) rfl ?_
      exact ⟨_, by first | rfl | (simp [errW_none, errW_some] <;> rfl) | (simp [*, errW_none, errW_some] <;> rfl), by (with_reducible repeat (first | apply Kd.Q_alloc | apply Kd.Q_drewN | apply Kd.Q_drew)); exact Kd.Q_mono (Kd.Q_far (p := ⟨gb243, 4, none⟩) (Kd.Q_far (p := ⟨gb243, 3, none⟩) (Kd.Q_far (p := ⟨gb243, 2, none⟩) (Kd.Q_far (p := ⟨gb243, 1, none⟩) (Kd.Q_far (p := ⟨gb243, 0, none⟩) (Kd.Q_far (p := ⟨gb242, 2, none⟩) (Kd.Q_far (p := ⟨gb242, 1, none⟩) (Kd.Q_far (p := ⟨gb242, 0, none⟩) (Kd.Q_types (Kd.Q_types HO246.out BK242.out (by decide)) BK243.out (by decide)) (fun _ hk => hk.1.2) (.slice A9 y244.length c9)) (fun _ hk => hk.1.2) (.int .i64 (wrap64 (a0_1 - 1)))) (fun _ hk => hk.1.2) (.int .i64 (wrap64 (a0_2 - 1)))) (fun _ hk => hk.2) (.slice A9 y244.length c9)) (fun _ hk => hk.2) (.int .i64 (wrap64 (a0_1 - 1)))) (fun _ hk => hk.2) (.int .i64 (wrap64 (a0_2 - 1)))) (fun _ hk => hk.2) (.int .u64 a0_3)) (fun _ hk => hk.2) (.int .u64 a0_4)) (fun _ hk => hk.1.1), by repeat (first | (with_reducible first | exact HB.out | apply below_alloc | apply pw_below_drewN | apply below_drew1 | refine below_set ?_ GE242.out | refine below_set ?_ GE243.out) | exact HB.out), by repeat (first | (with_reducible first | exact HK.out | apply Kept.alloc | apply Kept.drewN | apply Kept.drew | refine Kept.setCell ?_ (.inr GW242.out) _ | refine Kept.setCell ?_ (.inr GW243.out) _) | exact HK.out)⟩
    · rw [if_neg c3] at H
      have c3b0 : decide (a0_1 < a0_2) = false := decide_eq_false c3
      clear c3
      simp only [Option.some.injEq, Prod.mk.injEq] at H
      obtain ⟨rfl, rfl, rfl, rfl, rfl⟩ := H
      obtain ⟨Ao11, co11, eo11⟩ := Kd.R_slice HO0_0.out
      subst eo11
      go_enter Tryd.func109, Tryd.ntmps109
      go_wp2_with (first | ((with_reducible refine gate_dst (N := 1) rfl ?_); refine be 1 #[.slice Ao11 l0_0.length co11, .int .i64 a0_1, .int .i64 a0_2, .int .u64 a0_3, .int .u64 a0_4] 132 ?_; intro gb242 hg w12 hbox hb; have BK242 := aq (hbox); have GW242 := aq ((by rw [hg]; exact (by first | exact HK.out.1 | exact (show Kept w _ (fun k_ => P0_0_ k_) from by repeat (first | (with_reducible first | exact HK.out | apply Kept.alloc | apply Kept.drewN | apply Kept.drew) | exact HK.out)).1) : w.heap.size ≤ gb242)); have GE242 := aq ((by rw [hg]; exact (below_size (bw HB)) : w0.heap.size ≤ gb242)); replace HO0_0 := aq (Kd.R_below (rq HO0_0) hb); replace HK := aq (Kept.below (S := (fun k_ => P0_0_ k_)) (by repeat (first | (with_reducible first | exact HK.out | apply Kept.alloc | apply Kept.drewN | apply Kept.drew) | exact HK.out)) hb); replace HB := aq (below_step (bw HB) hb); clear hb hbox hg) | ((with_reducible refine gate_dst (N := 2) rfl ?_); refine be 2 #[.slice none 0 0, .int .i64 0, .int .i64 0, .int .u64 0, .int .u64 0] 132 ?_; intro gb243 hg w13 hbox hb; have BK243 := aq (hbox); have GW243 := aq ((by rw [hg]; exact (by first | exact HK.out.1 | exact (show Kept w _ (fun k_ => P0_0_ k_) from by repeat (first | (with_reducible first | exact HK.out | apply Kept.alloc | apply Kept.drewN | apply Kept.drew | refine Kept.setCell ?_ (.inr GW242.out) _) | exact HK.out)).1) : w.heap.size ≤ gb243)); have GE243 := aq ((by rw [hg]; exact (below_size (bw HB)) : w0.heap.size ≤ gb243)); have NB242_243 := aq ((by rw [hg]; exact Nat.ne_of_lt (blk_lt (g := gb242) (o := .cells #[.slice Ao11 l0_0.length co11, .int .i64 a0_1, .int .i64 a0_2, .int .u64 a0_3, .int .u64 a0_4] 132 (0, 0)) (bq BK242)) : gb242 ≠ gb243)); have NB243_242 := aq ((by rw [hg]; exact Nat.ne_of_gt (blk_lt (g := gb242) (o := .cells #[.slice Ao11 l0_0.length co11, .int .i64 a0_1, .int .i64 a0_2, .int .u64 a0_3, .int .u64 a0_4] 132 (0, 0)) (bq BK242)) : gb243 ≠ gb242)); replace HO0_0 := aq (Kd.R_below (rq HO0_0) hb); replace BK242 := aq (blk_below (bq BK242) hb); replace HK := aq (Kept.below (S := (fun k_ => P0_0_ k_)) (by repeat (first | (with_reducible first | exact HK.out | apply Kept.alloc | apply Kept.drewN | apply Kept.drew | refine Kept.setCell ?_ (.inr GW242.out) _) | exact HK.out)) hb); replace HB := aq (below_step (bw HB) hb); clear hb hbox hg; have hnb14 := NB242_243.out; have hnc14 := NB243_242.out; have hcz15_0 : w13.cell? ⟨gb242, 0, none⟩ = some (.slice Ao11 l0_0.length co11) := bc BK242 0; have hcz15_1 : w13.cell? ⟨gb242, 1, none⟩ = some (.int .i64 a0_1) := bc BK242 1; have hcz15_2 : w13.cell? ⟨gb242, 2, none⟩ = some (.int .i64 a0_2) := bc BK242 2; have hcz15_3 : w13.cell? ⟨gb242, 3, none⟩ = some (.int .u64 a0_3) := bc BK242 3; have hcz15_4 : w13.cell? ⟨gb242, 4, none⟩ = some (.int .u64 a0_4) := bc BK242 4; have hfz15_0 := bz BK242 0; have hfz15_1 := bz BK242 1; have hfz15_2 := bz BK242 2; have hfz15_3 := bz BK242 3; have hfz15_4 := bz BK242 4; have q16 : (1 : Int) ≤ ((l0_0.length : Int) : Int) := of_decide_eq_true (by first | (with_reducible assumption) | assumption); obtain ⟨i016, hi016, _, hsz16, _⟩ := info_parts info108; have hcut16 := cut_from (P := Tryd.prog) 130 108 .i64 Tryd.underlying130 hi016 2 hsz16 Ao11 l0_0.length co11 1 (by omega) q16; have hr16 := Kd.Q_drop (k := (1 : Int).toNat) (Kd.Q_of_R HO0_0.out) (by omega); obtain ⟨A16, hA16⟩ : ∃ A1, A1 = (if co11 = (1 : Int).toNat then Ao11 else (Ao11 : Option Addr).map (·.add ((1 : Int).toNat * 2))) := ⟨_, rfl⟩; obtain ⟨c16, hc16⟩ : ∃ c1, c1 = co11 - (1 : Int).toNat := ⟨_, rfl⟩; have hy16 : y244.length = l0_0.length - (1 : Int).toNat := (by rw [Ny244.out, List.length_drop]); rw [← Ny244.out] at hr16; rw [← hy16, ← hA16, ← hc16] at hcut16; replace hr16 : Kd.Q k108 108 w13 w0.heap.size (fun k_ => (P0_0_ k_ ∨ w.heap.size ≤ k_)) (.slice A16 y244.length c16) y244 := (by rw [hA16, hc16, hy16]; exact hr16); have HE16 : Aside0 ((Value.slice A16 y244.length c16).ownBlock = (.slice Ao11 l0_0.length co11 : Value).ownBlock) := ⟨by rw [hA16]; split <;> (cases (Ao11 : Option Addr) <;> rfl)⟩; clear hy16 hi016 hsz16 HO0_0 hA16 hc16; have HO246 := aq hr16; clear hr16; replace q16 := eq_true q16; have hcz17_0 : w13.cell? ⟨gb243, 0, none⟩ = some (.slice none 0 0) := bc BK243 0; have hcz17_1 : w13.cell? ⟨gb243, 1, none⟩ = some (.int .i64 0) := bc BK243 1; have hcz17_2 : w13.cell? ⟨gb243, 2, none⟩ = some (.int .i64 0) := bc BK243 2; have hcz17_3 : w13.cell? ⟨gb243, 3, none⟩ = some (.int .u64 0) := bc BK243 3; have hcz17_4 : w13.cell? ⟨gb243, 4, none⟩ = some (.int .u64 0) := bc BK243 4; have hfz17_0 := bz BK243 0; have hfz17_1 := bz BK243 1; have hfz17_2 := bz BK243 2; have hfz17_3 := bz BK243 3; have hfz17_4 := bz BK243 4))
      refine bodyPost_ret (results_cell_row rfl _ _ gb243 132 #[.slice A16 y244.length c16, .int .i64 a0_1, .int .i64 a0_2, .int .u64 a0_3, .int .u64 a0_4] (0, 0) _ rfl (by (with_reducible repeat (first | refine blk_drewN ?_ _ | refine blk_drew ?_ | refine blk_alloc ?_ _)); refine blk_put (cs := #[.slice A16 y244.length c16, .int .i64 a0_1, .int .i64 a0_2, .int .u64 a0_3, .int .u64 0]) ?_ 4 _ rfl; (with_reducible repeat (first | refine blk_drewN ?_ _ | refine blk_drew ?_ | refine blk_alloc ?_ _)); refine blk_put (cs := #[.slice A16 y244.length c16, .int .i64 a0_1, .int .i64 a0_2, .int .u64 0, .int .u64 0]) ?_ 3 _ rfl; (with_reducible repeat (first | refine blk_drewN ?_ _ | refine blk_drew ?_ | refine blk_alloc ?_ _)); refine blk_put (cs := #[.slice A16 y244.length c16, .int .i64 a0_1, .int .i64 0, .int .u64 0, .int .u64 0]) ?_ 2 _ rfl; (with_reducible repeat (first | refine blk_drewN ?_ _ | refine blk_drew ?_ | refine blk_alloc ?_ _)); refine blk_put (cs := #[.slice A16 y244.length c16, .int .i64 0, .int .i64 0, .int .u64 0, .int .u64 0]) ?_ 1 _ rfl; (with_reducible repeat (first | refine blk_drewN ?_ _ | refine blk_drew ?_ | refine blk_alloc ?_ _)); refine blk_put (cs := #[.slice none 0 0, .int .i64 0, .int .i64 0, .int .u64 0, .int .u64 0]) ?_ 0 _ rfl; (with_reducible repeat (first | refine blk_drewN ?_ _ | refine blk_drew ?_ | refine blk_alloc ?_ _)); refine blk_far ?_ NB243_242.out _; (with_reducible repeat (first | refine blk_drewN ?_ _ | refine blk_drew ?_ | refine blk_alloc ?_ _)); exact BK243.out) Tryd.underlying132 rfl (by kernel_rfl)) rfl ?_
      exact ⟨_, by first | rfl | (simp [errW_none, errW_some] <;> rfl) | (simp [*, errW_none, errW_some] <;> rfl), by (with_reducible repeat (first | apply Kd.Q_alloc | apply Kd.Q_drewN | apply Kd.Q_drew)); exact Kd.Q_mono (Kd.Q_far (p := ⟨gb243, 4, none⟩) (Kd.Q_far (p := ⟨gb243, 3, none⟩) (Kd.Q_far (p := ⟨gb243, 2, none⟩) (Kd.Q_far (p := ⟨gb243, 1, none⟩) (Kd.Q_far (p := ⟨gb243, 0, none⟩) (Kd.Q_far (p := ⟨gb242, 0, none⟩) (Kd.Q_types (Kd.Q_types HO246.out BK242.out (by decide)) BK243.out (by decide)) (fun _ hk => hk.1.2) (.slice A16 y244.length c16)) (fun _ hk => hk.2) (.slice A16 y244.length c16)) (fun _ hk => hk.2) (.int .i64 a0_1)) (fun _ hk => hk.2) (.int .i64 a0_2)) (fun _ hk => hk.2) (.int .u64 a0_3)) (fun _ hk => hk.2) (.int .u64 a0_4)) (fun _ hk => hk.1.1), by repeat (first | (with_reducible first | exact HB.out | apply below_alloc | apply pw_below_drewN | apply below_drew1 | refine below_set ?_ GE242.out | refine below_set ?_ GE243.out) | exact HB.out), by repeat (first | (with_reducible first | exact HK.out | apply Kept.alloc | apply Kept.drewN | apply Kept.drew | refine Kept.setCell ?_ (.inr GW242.out) _ | refine Kept.setCell ?_ (.inr GW243.out) _) | exact HK.out)⟩
  · rw [if_neg c2] at H
    exact absurd H (by simp)
def proof_Inclusion.f (k : Nat) (a0 : Int) (a1 : Int) : Option ((List (S108)) × Int × Int × Int × Int × Option Int) := if a0 ≥ a1 then ((errors_New.f (⟨#[105, 110, 100, 101, 120, 32, 111, 117, 116, 32, 111, 102, 32, 98, 111, 117, 110, 100, 115, 32, 102, 111, 114, 32, 116, 114, 101, 101, 32, 115, 105, 122, 101]⟩ : ByteArray)).bind fun t248 => (some (([] : List (S108)), 0, 0, 0, 0, t248))) else ((proof_nodes.f k a0 0 a1).bind fun bt249 => ((proof_Nodes_skipFirst.f bt249.1 bt249.2.1 bt249.2.2.1 bt249.2.2.2.1 bt249.2.2.2.2).bind fun bt256 => (some (bt256.1, bt256.2.1, bt256.2.2.1, bt256.2.2.2.1, bt256.2.2.2.2, none))))
set_option maxHeartbeats 8000000 in
set_option maxRecDepth 100000 in
theorem proof_Inclusion.calls (k : Nat) (a0 : Int) (a1 : Int) (r1 : List (S108)) (r2 : Int) (r3 : Int) (r4 : Int) (r5 : Int) (r6 : Option Int) (w : World) (HG_ : Glob w) (h : proof_Inclusion.f k a0 a1 = some (r1, r2, r3, r4, r5, r6)) :
    Calls Tryd.prog 79 #[.int .u64 a0, .int .u64 a1] w fun e w' => ∃ v0_ : Value, e = .returned (.tuple #[.agg #[v0_, .int .i64 r2, .int .i64 r3, .int .u64 r4, .int .u64 r5], errW r6]) ∧ Kd.Q k108 108 w' w.heap.size (fun _ => True) v0_ r1 ∧ Below w.heap.size w w' := by
  have hu132 := Tryd.underlying132
  have HG := aq HG_
  clear HG_
  have HB := aq (Below.refl w.heap.size w)
  have H : (if a0 ≥ a1 then ((errors_New.f (⟨#[105, 110, 100, 101, 120, 32, 111, 117, 116, 32, 111, 102, 32, 98, 111, 117, 110, 100, 115, 32, 102, 111, 114, 32, 116, 114, 101, 101, 32, 115, 105, 122, 101]⟩ : ByteArray)).bind fun t248 => (some (([] : List (S108)), 0, 0, 0, 0, t248))) else ((proof_nodes.f k a0 0 a1).bind fun bt249 => ((proof_Nodes_skipFirst.f bt249.1 bt249.2.1 bt249.2.2.1 bt249.2.2.2.1 bt249.2.2.2.2).bind fun bt256 => (some (bt256.1, bt256.2.1, bt256.2.2.1, bt256.2.2.2.1, bt256.2.2.2.2, none))))) = some (r1, r2, r3, r4, r5, r6) := h
  clear h
  by_cases c3 : a0 ≥ a1
  · rw [if_pos c3] at H
    have c3b0 : decide (a1 ≤ a0) = true := decide_eq_true c3
    clear c3
    replace H := Option.bind_eq_some_iff.mp H
    obtain ⟨t248, A40, H⟩ := H
    have A4 := aq A40
    clear A40
    simp only [Option.some.injEq, Prod.mk.injEq] at H
    obtain ⟨rfl, rfl, rfl, rfl, rfl, rfl⟩ := H
    go_enter Tryd.func79, Tryd.ntmps79
    go_wp2_with (first | ((with_reducible refine gate_dst (N := 4) rfl ?_); refine be 4 #[.slice none 0 0, .int .i64 0, .int .i64 0, .int .u64 0, .int .u64 0] 132 ?_; intro gb247 hg w5 hbox hb; have BK247 := aq (hbox); have GW247 := aq ((by rw [hg]; exact (below_size (bw HB)) : w.heap.size ≤ gb247)); have GE247 := aq ((by rw [hg]; exact (below_size (bw HB)) : w.heap.size ≤ gb247)); replace HB := aq (below_step (bw HB) hb); clear hb hbox hg) | ((with_reducible refine gate_callee (f := 87) rfl ?_); refine gL 10 Tryd.func87 #[.string (⟨#[105, 110, 100, 101, 120, 32, 111, 117, 116, 32, 111, 102, 32, 98, 111, 117, 110, 100, 115, 32, 102, 111, 114, 32, 116, 114, 101, 101, 32, 115, 105, 122, 101]⟩ : ByteArray)] ?_; (with_reducible refine (errors_New.calls (⟨#[105, 110, 100, 101, 120, 32, 111, 117, 116, 32, 111, 102, 32, 98, 111, 117, 110, 100, 115, 32, 102, 111, 114, 32, 116, 114, 101, 101, 32, 115, 105, 122, 101]⟩ : ByteArray) t248 _ A4.out).mono ?_); rintro e w6 ⟨rfl, hb⟩; refine ⟨_, rfl, ?_⟩; replace BK247 := aq (blk_below (bq BK247) hb); replace HB := aq (below_step (bw HB) hb); (try clear hb); (try clear hk); (try simp only [errW_none, errW_some]); have hcz7_0 : w6.cell? ⟨gb247, 0, none⟩ = some (.slice none 0 0) := bc BK247 0; have hcz7_1 : w6.cell? ⟨gb247, 1, none⟩ = some (.int .i64 0) := bc BK247 1; have hcz7_2 : w6.cell? ⟨gb247, 2, none⟩ = some (.int .i64 0) := bc BK247 2; have hcz7_3 : w6.cell? ⟨gb247, 3, none⟩ = some (.int .u64 0) := bc BK247 3; have hcz7_4 : w6.cell? ⟨gb247, 4, none⟩ = some (.int .u64 0) := bc BK247 4; have hfz7_0 := bz BK247 0; have hfz7_1 := bz BK247 1; have hfz7_2 := bz BK247 2; have hfz7_3 := bz BK247 3; have hfz7_4 := bz BK247 4))
    refine bodyPost_ret (results_ct rfl _ _ gb247 132 #[.slice none 0 0, .int .i64 0, .int .i64 0, .int .u64 0, .int .u64 0] (0, 0) _ rfl (by (with_reducible repeat (first | refine blk_drewN ?_ _ | refine blk_drew ?_ | refine blk_alloc ?_ _)); refine blk_put (cs := #[.slice none 0 0, .int .i64 0, .int .i64 0, .int .u64 0, .int .u64 0]) ?_ 4 _ rfl; (with_reducible repeat (first | refine blk_drewN ?_ _ | refine blk_drew ?_ | refine blk_alloc ?_ _)); refine blk_put (cs := #[.slice none 0 0, .int .i64 0, .int .i64 0, .int .u64 0, .int .u64 0]) ?_ 3 _ rfl; (with_reducible repeat (first | refine blk_drewN ?_ _ | refine blk_drew ?_ | refine blk_alloc ?_ _)); refine blk_put (cs := #[.slice none 0 0, .int .i64 0, .int .i64 0, .int .u64 0, .int .u64 0]) ?_ 2 _ rfl; (with_reducible repeat (first | refine blk_drewN ?_ _ | refine blk_drew ?_ | refine blk_alloc ?_ _)); refine blk_put (cs := #[.slice none 0 0, .int .i64 0, .int .i64 0, .int .u64 0, .int .u64 0]) ?_ 1 _ rfl; (with_reducible repeat (first | refine blk_drewN ?_ _ | refine blk_drew ?_ | refine blk_alloc ?_ _)); refine blk_put (cs := #[.slice none 0 0, .int .i64 0, .int .i64 0, .int .u64 0, .int .u64 0]) ?_ 0 _ rfl; (with_reducible repeat (first | refine blk_drewN ?_ _ | refine blk_drew ?_ | refine blk_alloc ?_ _)); exact BK247.out) Tryd.underlying132 rfl (by kernel_rfl)) rfl ?_
    exact ⟨_, by first | rfl | (simp [errW_none, errW_some] <;> rfl) | (simp [*, errW_none, errW_some] <;> rfl), Kd.Q_of_R (by first | exact Kd.R_nil _ _ _ _ _ | exact Kd.N_nil _ _ _ _ _ | exact Kd.V_nil _ _ _ _ _ | exact Kd.Q_nil _ _ _ _ _ | exact Kd.S_nil _ _ _ _ _), by repeat (first | (with_reducible first | exact HB.out | apply below_alloc | apply pw_below_drewN | apply below_drew1 | refine below_set ?_ GE247.out) | exact HB.out)⟩
  · rw [if_neg c3] at H
    have c3b0 : decide (a1 ≤ a0) = false := decide_eq_false c3
    clear c3
    replace H := Option.bind_eq_some_iff.mp H
    obtain ⟨⟨t249, t252, t253, t254, t255⟩, A80, H⟩ := H
    have A8 := aq A80
    clear A80
    replace H := Option.bind_eq_some_iff.mp H
    obtain ⟨⟨t256, t259, t260, t261, t262⟩, A90, H⟩ := H
    have A9 := aq A90
    clear A90
    simp only [Option.some.injEq, Prod.mk.injEq] at H
    obtain ⟨rfl, rfl, rfl, rfl, rfl, rfl⟩ := H
    go_enter Tryd.func79, Tryd.ntmps79
    go_wp2_with (first | ((with_reducible refine gate_dst (N := 4) rfl ?_); refine be 4 #[.slice none 0 0, .int .i64 0, .int .i64 0, .int .u64 0, .int .u64 0] 132 ?_; intro gb247 hg w10 hbox hb; have BK247 := aq (hbox); have GW247 := aq ((by rw [hg]; exact (below_size (bw HB)) : w.heap.size ≤ gb247)); have GE247 := aq ((by rw [hg]; exact (below_size (bw HB)) : w.heap.size ≤ gb247)); replace HB := aq (below_step (bw HB) hb); clear hb hbox hg) | ((with_reducible refine gate_callee (f := 108) rfl ?_); refine gL 13 Tryd.func108 #[.int .u64 a0, .int .u64 0, .int .u64 a1] ?_; (with_reducible refine (proof_nodes.calls k a0 0 a1 t249 t252 t253 t254 t255 _ ?side1 A8.out).mono ?_); (case side1 => first | exact HG.out | exact Glob.drewN HG.out _ | exact Glob.below HG.out (bw HB)); rintro e w11 ⟨v250, rfl, ho0, hb⟩; refine ⟨_, rfl, ?_⟩; have HO251 := aq (Kd.R_lower ho0 (below_size (bw HB))); replace BK247 := aq (blk_below (bq BK247) hb); replace HB := aq (below_step (bw HB) hb); (try clear hb); (try clear hk); (try clear ho0); obtain ⟨Ao12, co12, eo12⟩ := Kd.R_slice HO251.out; subst eo12) | ((with_reducible refine gate_callee (f := 109) rfl ?_); refine gL 14 Tryd.func109 #[.agg #[.slice Ao12 t249.length co12, .int .i64 t252, .int .i64 t253, .int .u64 t254, .int .u64 t255]] ?_; (with_reducible refine (proof_Nodes_skipFirst.calls (fun k_ => some k_ = (.slice Ao12 t249.length co12 : Value).ownBlock) (.slice Ao12 t249.length co12) t249 t252 t253 t254 t255 t256 t259 t260 t261 t262 w _ ?side1 ?side2 A9.out).mono ?_); (case side1 => repeat (first | (with_reducible first | exact HB.out | apply below_alloc | apply pw_below_drewN | apply below_drew1 | refine below_set ?_ GE247.out) | exact HB.out)); (case side2 => exact Kd.R_tight rfl HO251.out); rintro e w13 ⟨v257, rfl, ho0, hb, hkp⟩; refine ⟨_, rfl, ?_⟩; have HO258 := aq (Kd.Q_mono (ok' := fun k_ => True) ho0 (fun k_ hk_ => trivial)); replace BK247 := aq (blk_kept (bq BK247) hkp (fun hs_ => (fun e_ => (Kd.R_ne HO251.out BK247.out (by decide)) e_) hs_)); replace HB := aq (hb); clear HO251; (try clear hb); (try clear hkp); (try clear ho0); obtain ⟨Ao14, co14, eo14, _⟩ := Kd.Q_slice HO258.out; subst eo14; have hcz15_0 : w13.cell? ⟨gb247, 0, none⟩ = some (.slice none 0 0) := bc BK247 0; have hcz15_1 : w13.cell? ⟨gb247, 1, none⟩ = some (.int .i64 0) := bc BK247 1; have hcz15_2 : w13.cell? ⟨gb247, 2, none⟩ = some (.int .i64 0) := bc BK247 2; have hcz15_3 : w13.cell? ⟨gb247, 3, none⟩ = some (.int .u64 0) := bc BK247 3; have hcz15_4 : w13.cell? ⟨gb247, 4, none⟩ = some (.int .u64 0) := bc BK247 4; have hfz15_0 := bz BK247 0; have hfz15_1 := bz BK247 1; have hfz15_2 := bz BK247 2; have hfz15_3 := bz BK247 3; have hfz15_4 := bz BK247 4))
    refine bodyPost_ret (results_ct rfl _ _ gb247 132 #[.slice Ao14 t256.length co14, .int .i64 t259, .int .i64 t260, .int .u64 t261, .int .u64 t262] (0, 0) _ rfl (by (with_reducible repeat (first | refine blk_drewN ?_ _ | refine blk_drew ?_ | refine blk_alloc ?_ _)); refine blk_put (cs := #[.slice Ao14 t256.length co14, .int .i64 t259, .int .i64 t260, .int .u64 t261, .int .u64 0]) ?_ 4 _ rfl; (with_reducible repeat (first | refine blk_drewN ?_ _ | refine blk_drew ?_ | refine blk_alloc ?_ _)); refine blk_put (cs := #[.slice Ao14 t256.length co14, .int .i64 t259, .int .i64 t260, .int .u64 0, .int .u64 0]) ?_ 3 _ rfl; (with_reducible repeat (first | refine blk_drewN ?_ _ | refine blk_drew ?_ | refine blk_alloc ?_ _)); refine blk_put (cs := #[.slice Ao14 t256.length co14, .int .i64 t259, .int .i64 0, .int .u64 0, .int .u64 0]) ?_ 2 _ rfl; (with_reducible repeat (first | refine blk_drewN ?_ _ | refine blk_drew ?_ | refine blk_alloc ?_ _)); refine blk_put (cs := #[.slice Ao14 t256.length co14, .int .i64 0, .int .i64 0, .int .u64 0, .int .u64 0]) ?_ 1 _ rfl; (with_reducible repeat (first | refine blk_drewN ?_ _ | refine blk_drew ?_ | refine blk_alloc ?_ _)); refine blk_put (cs := #[.slice none 0 0, .int .i64 0, .int .i64 0, .int .u64 0, .int .u64 0]) ?_ 0 _ rfl; (with_reducible repeat (first | refine blk_drewN ?_ _ | refine blk_drew ?_ | refine blk_alloc ?_ _)); exact BK247.out) Tryd.underlying132 rfl (by kernel_rfl)) rfl ?_
    exact ⟨_, by first | rfl | (simp [errW_none, errW_some] <;> rfl) | (simp [*, errW_none, errW_some] <;> rfl), by (with_reducible repeat (first | apply Kd.Q_alloc | apply Kd.Q_drewN | apply Kd.Q_drew)); exact Kd.Q_mono (Kd.Q_far (p := ⟨gb247, 4, none⟩) (Kd.Q_far (p := ⟨gb247, 3, none⟩) (Kd.Q_far (p := ⟨gb247, 2, none⟩) (Kd.Q_far (p := ⟨gb247, 1, none⟩) (Kd.Q_far (p := ⟨gb247, 0, none⟩) (Kd.Q_types HO258.out BK247.out (by decide)) (fun _ hk => hk.2) (.slice Ao14 t256.length co14)) (fun _ hk => hk.2) (.int .i64 t259)) (fun _ hk => hk.2) (.int .i64 t260)) (fun _ hk => hk.2) (.int .u64 t261)) (fun _ hk => hk.2) (.int .u64 t262)) (fun _ hk => trivial), by repeat (first | (with_reducible first | exact HB.out | apply below_alloc | apply pw_below_drewN | apply below_drew1 | refine below_set ?_ GE247.out) | exact HB.out)⟩
theorem bcell {W w1 : World} (hb : Below W.heap.size W w1) : (∀ b o, b < W.heap.size → w1.cell? ⟨b, o, none⟩ = W.cell? ⟨b, o, none⟩) ∧ (∀ b o, b < W.heap.size → w1.frozen? ⟨b, o, none⟩ = W.frozen? ⟨b, o, none⟩) :=
  ⟨fun b o h => hb.cell (p := ⟨b, o, none⟩) h, fun b o h => hb.frozen (p := ⟨b, o, none⟩) h⟩
set_option maxHeartbeats 1000000 in
set_option maxRecDepth 100000 in
theorem errors_New.err (s : ByteArray) (w : World) : Calls Tryd.prog 87 #[.string s] w fun e w' => ∃ T x, e = .returned (.iface T (.pointer (some x))) ∧ Below w.heap.size w w' := by
  go_enter Tryd.func87, Tryd.ntmps87
  go_wp2
  go_ret
  exact ⟨_, _, rfl, by repeat (first | (with_reducible first | exact Below.refl _ _ | apply below_alloc | apply pw_below_drewN | apply below_drew1) | exact Below.refl _ _)⟩
set_option maxHeartbeats 1000000 in
set_option maxRecDepth 100000 in
theorem proof_Inclusion.err (a0 a1 : Int) (w : World) (hgt : a1 ≤ a0) : Calls Tryd.prog 79 #[.int .u64 a0, .int .u64 a1] w fun e w' => ∃ T x, e = .returned (.tuple #[.agg #[.slice none 0 0, .int .i64 0, .int .i64 0, .int .u64 0, .int .u64 0], .iface T (.pointer (some x))]) ∧ Below w.heap.size w w' := by
  go_enter Tryd.func79, Tryd.ntmps79
  go_wp2_with (go_at_call 87; refine (errors_New.err _ _).mono ?_; rintro e w1 ⟨T, x, rfl, hb⟩; obtain ⟨hc, hf⟩ := bcell hb)
  have hz : w.heap.size + 1 ≤ w1.heap.size := by have := hb.size; simp at this; omega
  refine bodyPost_ret (v := .tuple #[.agg #[.slice none 0 0, .int .i64 0, .int .i64 0, .int .u64 0, .int .u64 0], .iface T (.pointer (some x))]) (by simp [results, Tryd.results79, go_sem, hc]) rfl ⟨T, x, rfl, ?_⟩
  have h0 : Below w.heap.size w w1 := below_then (below_alloc (Below.refl _ _) _) (by simp) hb
  repeat (refine Below.setCell ?_ (by simp) _)
  exact h0
def impl_fromNode.f (a0_0 : Int) (a0_1 : Int) : Option (Int × Int) := some (a0_0, a0_1)
set_option maxHeartbeats 8000000 in
set_option maxRecDepth 100000 in
theorem impl_fromNode.calls (a0_0 : Int) (a0_1 : Int) (r1 : Int) (r2 : Int) (w : World) (h : impl_fromNode.f a0_0 a0_1 = some (r1, r2)) :
    Calls Tryd.prog 57 #[.agg #[.int .u64 a0_0, .int .u64 a0_1]] w fun e w' => e = .returned (.agg #[.int .u64 r1, .int .u64 r2]) ∧ Below w.heap.size w w' := by
  have hu108 := Tryd.underlying108
  have hu52 := Tryd.underlying52
  have HB := aq (Below.refl w.heap.size w)
  have H : (some (a0_0, a0_1)) = some (r1, r2) := h
  clear h
  simp only [Option.some.injEq, Prod.mk.injEq] at H
  obtain ⟨rfl, rfl⟩ := H
  go_enter Tryd.func57, Tryd.ntmps57
  go_wp2_with (first | ((with_reducible refine gate_dst (N := 1) rfl ?_); refine be 1 #[.int .u64 a0_0, .int .u64 a0_1] 108 ?_; intro gb263 hg w2 hbox hb; have BK263 := aq (hbox); have GW263 := aq ((by rw [hg]; exact (below_size (bw HB)) : w.heap.size ≤ gb263)); have GE263 := aq ((by rw [hg]; exact (below_size (bw HB)) : w.heap.size ≤ gb263)); replace HB := aq (below_step (bw HB) hb); clear hb hbox hg) | ((with_reducible refine gate_dst (N := 2) rfl ?_); refine be 2 #[.int .u64 0, .int .u64 0] 52 ?_; intro gb264 hg w3 hbox hb; have BK264 := aq (hbox); have GW264 := aq ((by rw [hg]; exact (below_size (bw HB)) : w.heap.size ≤ gb264)); have GE264 := aq ((by rw [hg]; exact (below_size (bw HB)) : w.heap.size ≤ gb264)); have NB263_264 := aq ((by rw [hg]; exact Nat.ne_of_lt (blk_lt (g := gb263) (o := .cells #[.int .u64 a0_0, .int .u64 a0_1] 108 (0, 0)) (bq BK263)) : gb263 ≠ gb264)); have NB264_263 := aq ((by rw [hg]; exact Nat.ne_of_gt (blk_lt (g := gb263) (o := .cells #[.int .u64 a0_0, .int .u64 a0_1] 108 (0, 0)) (bq BK263)) : gb264 ≠ gb263)); replace BK263 := aq (blk_below (bq BK263) hb); replace HB := aq (below_step (bw HB) hb); clear hb hbox hg; have hnb4 := NB263_264.out; have hnc4 := NB264_263.out; have hcz5_0 : w3.cell? ⟨gb263, 0, none⟩ = some (.int .u64 a0_0) := bc BK263 0; have hcz5_1 : w3.cell? ⟨gb263, 1, none⟩ = some (.int .u64 a0_1) := bc BK263 1; have hfz5_0 := bz BK263 0; have hfz5_1 := bz BK263 1; have hcz6_0 : w3.cell? ⟨gb264, 0, none⟩ = some (.int .u64 0) := bc BK264 0; have hcz6_1 : w3.cell? ⟨gb264, 1, none⟩ = some (.int .u64 0) := bc BK264 1; have hfz6_0 := bz BK264 0; have hfz6_1 := bz BK264 1))
  refine bodyPost_ret (results_cell_row rfl _ _ gb264 52 #[.int .u64 a0_0, .int .u64 a0_1] (0, 0) _ rfl (by (with_reducible repeat (first | refine blk_drewN ?_ _ | refine blk_drew ?_ | refine blk_alloc ?_ _)); refine blk_put (cs := #[.int .u64 a0_0, .int .u64 0]) ?_ 1 _ rfl; (with_reducible repeat (first | refine blk_drewN ?_ _ | refine blk_drew ?_ | refine blk_alloc ?_ _)); refine blk_put (cs := #[.int .u64 0, .int .u64 0]) ?_ 0 _ rfl; (with_reducible repeat (first | refine blk_drewN ?_ _ | refine blk_drew ?_ | refine blk_alloc ?_ _)); exact BK264.out) Tryd.underlying52 rfl (by kernel_rfl)) rfl ?_
  exact ⟨by first | rfl | (simp [errW_none, errW_some] <;> rfl) | (simp [*, errW_none, errW_some] <;> rfl), by repeat (first | (with_reducible first | exact HB.out | apply below_alloc | apply pw_below_drewN | apply below_drew1 | refine below_set ?_ GE263.out | refine below_set ?_ GE264.out) | exact HB.out)⟩
def proof_Nodes_Ephem.f (l0_0 : List (S108)) (a0_1 : Int) (a0_2 : Int) (a0_3 : Int) (a0_4 : Int) : Option (Int × Int × Int × Int) := some (a0_3, a0_4, a0_1, a0_2)
def proof_Nodes_Ephem.T1 : Bool × List (List Nat × List Nat) := (true, [([], []), ([0], [0]), ([], []), ([2], [2]), ([], []), ([4], [4]), ([1, 0, 1], [1]), ([3, 6, 0, 1, 2, 3, 6], [3]), ([5, 7, 0, 1, 2, 3, 4, 5, 6, 7], [5])])
def proof_Nodes_Ephem.B1 : List Nat := [0, 1, 0, 4, 0, 16, 3, 79, 255]
theorem proof_Nodes_Ephem.tab1 : rtab .any (opsOf Tryd.f110 1) = proof_Nodes_Ephem.T1 := by kernel_rfl
theorem proof_Nodes_Ephem.bits1 : waitsOk proof_Nodes_Ephem.T1.2 proof_Nodes_Ephem.B1 = true := by kernel_rfl
set_option maxHeartbeats 8000000 in
set_option maxRecDepth 100000 in
theorem proof_Nodes_Ephem.calls (A0_0 : Option Addr) (c0_0 : Nat) (l0_0 : List (S108)) (a0_1 : Int) (a0_2 : Int) (a0_3 : Int) (a0_4 : Int) (r1 : Int) (r2 : Int) (r3 : Int) (r4 : Int) (w : World) (hr0_0 : Kd.C k108 w A0_0 l0_0.length l0_0) (hc0_0 : l0_0.length ≤ c0_0) (h : proof_Nodes_Ephem.f l0_0 a0_1 a0_2 a0_3 a0_4 = some (r1, r2, r3, r4)) :
    Calls Tryd.prog 110 #[.agg #[.slice A0_0 l0_0.length c0_0, .int .i64 a0_1, .int .i64 a0_2, .int .u64 a0_3, .int .u64 a0_4]] w fun e w' => e = .returned (.tuple #[.agg #[.int .u64 r1, .int .u64 r2], .int .i64 r3, .int .i64 r4]) ∧ Below w.heap.size w w' := by
  have hu132 := Tryd.underlying132
  have hu108 := Tryd.underlying108
  have HR0_0 := aq hr0_0
  have HC0_0 := aq hc0_0
  clear hr0_0 hc0_0
  have HB := aq (Below.refl w.heap.size w)
  have H : (some (a0_3, a0_4, a0_1, a0_2)) = some (r1, r2, r3, r4) := h
  clear h
  simp only [Option.some.injEq, Prod.mk.injEq] at H
  obtain ⟨rfl, rfl, rfl, rfl⟩ := H
  go_enter Tryd.func110, Tryd.ntmps110
  try go_wp2_with (first | ((with_reducible refine gate_dst (N := 1) rfl ?_); refine be 1 #[.slice A0_0 l0_0.length c0_0, .int .i64 a0_1, .int .i64 a0_2, .int .u64 a0_3, .int .u64 a0_4] 132 ?_; intro gb265 hg w2 hbox hb; have BK265 := aq (hbox); have GW265 := aq ((by rw [hg]; exact (below_size (bw HB)) : w.heap.size ≤ gb265)); have GE265 := aq ((by rw [hg]; exact (below_size (bw HB)) : w.heap.size ≤ gb265)); replace HB := aq (below_step (bw HB) hb); clear hb hbox hg) | ((with_reducible refine gate_dst (N := 2) rfl ?_); refine be 2 #[.int .u64 0, .int .u64 0] 108 ?_; intro gb266 hg w3 hbox hb; have BK266 := aq (hbox); have GW266 := aq ((by rw [hg]; exact (below_size (bw HB)) : w.heap.size ≤ gb266)); have GE266 := aq ((by rw [hg]; exact (below_size (bw HB)) : w.heap.size ≤ gb266)); have NB265_266 := aq ((by rw [hg]; exact Nat.ne_of_lt (blk_lt (g := gb265) (o := .cells #[.slice A0_0 l0_0.length c0_0, .int .i64 a0_1, .int .i64 a0_2, .int .u64 a0_3, .int .u64 a0_4] 132 (0, 0)) (bq BK265)) : gb265 ≠ gb266)); have NB266_265 := aq ((by rw [hg]; exact Nat.ne_of_gt (blk_lt (g := gb265) (o := .cells #[.slice A0_0 l0_0.length c0_0, .int .i64 a0_1, .int .i64 a0_2, .int .u64 a0_3, .int .u64 a0_4] 132 (0, 0)) (bq BK265)) : gb266 ≠ gb265)); replace BK265 := aq (blk_below (bq BK265) hb); replace HB := aq (below_step (bw HB) hb); clear hb hbox hg))
  replace BK265 := aq (blk_drew BK265.out)
  replace BK266 := aq (blk_drew BK266.out)
  replace HB := aq (below_drew1 HB.out)
  refine start_ (n := 9) (S := fun w' => w'.cell? ⟨gb265, 0, none⟩ = some (.slice A0_0 l0_0.length c0_0) ∧ w'.cell? ⟨gb265, 1, none⟩ = some (.int .i64 a0_1) ∧ w'.cell? ⟨gb265, 2, none⟩ = some (.int .i64 a0_2) ∧ w'.cell? ⟨gb265, 3, none⟩ = some (.int .u64 a0_3) ∧ w'.cell? ⟨gb265, 4, none⟩ = some (.int .u64 a0_4)) (ds := []) #[false, false, false, false, false, false, false, false, false] (by kernel_rfl) rfl rfl ⟨bc BK265 0, bc BK265 1, bc BK265 2, bc BK265 3, bc BK265 4⟩ (fun hHeld => ?_); refine with_tabW proof_Nodes_Ephem.tab1 proof_Nodes_Ephem.bits1 (fun HT_ HW_ => ?_)
  generalize w3.drew = w4 at BK265 BK266 HB hHeld ⊢
  refine pv 0 5 HT_ ?_
  refine pv 2 7 HT_ ?_
  refine pv 4 9 HT_ ?_
  refine tv 1 6 HT_ HW_ hHeld ?_
  refine tv 3 8 HT_ HW_ hHeld ?_
  refine tv 5 10 HT_ HW_ hHeld ?_
  refine one_ (i := 6) (N := none) #[true, true, true, true, true, true, true, false, false] rfl rfl (one_of HT_.out (by kernel_rfl)) (by decide) (fun K hK => ?_)
  have hs5 : w4.cell? ⟨gb266, 0, none⟩ = some (.int .u64 0) := bc BK266 0
  have hfs5 := bz BK266 0
  have hns5_0 := NB265_266.out
  have hms5_0 := NB266_265.out
  have hs6 : w4.cell? ⟨gb266, 1, none⟩ = some (.int .u64 0) := bc BK266 1
  have hfs6 := bz BK266 1
  have hns6_0 := NB265_266.out
  have hms6_0 := NB266_265.out
  refine skip_ (w1 := ?_) (by rfl) rfl ?_ ?_
  rotate_left
  · go_simp
    rfl
  refine hK.out _ _ ⟨((cell_far (p := ⟨gb266, _, none⟩) NB265_266.out _).trans (((cell_far (p := ⟨gb266, _, none⟩) NB265_266.out _).trans (hHeld.1)))), ((cell_far (p := ⟨gb266, _, none⟩) NB265_266.out _).trans (((cell_far (p := ⟨gb266, _, none⟩) NB265_266.out _).trans (hHeld.2.1)))), ((cell_far (p := ⟨gb266, _, none⟩) NB265_266.out _).trans (((cell_far (p := ⟨gb266, _, none⟩) NB265_266.out _).trans (hHeld.2.2.1)))), ((cell_far (p := ⟨gb266, _, none⟩) NB265_266.out _).trans (((cell_far (p := ⟨gb266, _, none⟩) NB265_266.out _).trans (hHeld.2.2.2.1)))), ((cell_far (p := ⟨gb266, _, none⟩) NB265_266.out _).trans (((cell_far (p := ⟨gb266, _, none⟩) NB265_266.out _).trans (hHeld.2.2.2.2))))⟩ (fun hHeld => ?_)
  clear hK K
  refine pv 7 3 HT_ ?_
  refine pv 8 4 HT_ ?_
  refine done_ (done_of HT_.out (by kernel_rfl)) ?_
  try go_wp2
  refine bodyPost_ret (results_ctt rfl _ _ gb266 108 #[.int .u64 a0_3, .int .u64 a0_4] (0, 0) _ rfl (by (with_reducible repeat (first | refine blk_drewN ?_ _ | refine blk_drew ?_ | refine blk_alloc ?_ _)); refine blk_put (cs := #[.int .u64 a0_3, .int .u64 0]) ?_ 1 _ rfl; (with_reducible repeat (first | refine blk_drewN ?_ _ | refine blk_drew ?_ | refine blk_alloc ?_ _)); refine blk_put (cs := #[.int .u64 0, .int .u64 0]) ?_ 0 _ rfl; (with_reducible repeat (first | refine blk_drewN ?_ _ | refine blk_drew ?_ | refine blk_alloc ?_ _)); exact BK266.out) Tryd.underlying108 rfl (by kernel_rfl)) rfl ?_
  exact ⟨by first | rfl | (simp [errW_none, errW_some] <;> rfl) | (simp [*, errW_none, errW_some] <;> rfl), by repeat (first | (with_reducible first | exact HB.out | apply below_alloc | apply pw_below_drewN | apply below_drew1 | refine below_set ?_ GE265.out | refine below_set ?_ GE266.out) | exact HB.out)⟩
end Go.Proofs.YtfhcpniibiobgaaDoor.Qf
