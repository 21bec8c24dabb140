-- Written by wip/tools/myprint.py for this seat (the kit's print with changes); Lean checks it.
import Derived.Test.YtmcelgfekffinaaDoorQcx0
import Derived.Test.YtmcelgfekffinaaDoorQcx6
import Derived.Test.YtmcelgfekffinaaDoorQcx7
import Derived.Test.YtmcelgfekffinaaDoorQcx8
import Derived.Test.YtmcelgfekffinaaDoorQcx9
namespace Go.Proofs.YtmcelgfekffinaaDoor.Qc
open Go.RowKit Go.Proofs.YtmcelgfekffinaaDoorW.PrintWords Go.Proofs.YtmcelgfekffinaaDoorW.PrintLast Go.Proofs.YtmcelgfekffinaaDoorW.PrintMore
attribute [local go_sem] max2_int min2_int max_two min_two max_three min_three max_four min_four   -- for this text's walks alone
set_option linter.unusedVariables false
set_option linter.unusedSimpArgs false

/-! ### spec_fork: function 31 -/
def spec_fork.l0 : Nat → Int → Int → Int → Option (Int × Int)
  | 0, _, _, _ => none
  | k + 1, x1, x312000, x312001 => if 0 ≤ x312000 then (if (x312001 / 2) = ((shr .u64 x1 x312000) / 2) then (some (x312000, shr .u64 x1 x312000)) else (spec_fork.l0 k x1 (IntKind.u64.wrap (x312000 + 1)) (x312001 / 2))) else (none)
def spec_fork.f (k : Nat) (a0_0 : Int) (a0_1 : Int) (a1 : Int) : Option (Int × Int) := spec_fork.l0 k a1 a0_0 a0_1
theorem spec_fork.mono_l : ∀ k, (∀ y0 y1 y2, LeO (spec_fork.l0 k y0 y1 y2) (spec_fork.l0 (k + 1) y0 y1 y2))
  | 0 => fun _ _ _ r h => by simp [spec_fork.l0] at h
  | k + 1 => by
    have ih0 := spec_fork.mono_l k
    · intro y0 y1 y2
      unfold spec_fork.l0
      repeat' first
      | (with_reducible exact ih0 _ _ _)
      | (with_reducible exact LeO.refl _)
      | (with_reducible exact LeO.none _)
      | (with_reducible refine LeO.ite ?_ ?_)
      | (with_reducible refine LeO.bind ?_ (fun _ => ?_))
      | exact ih0 _ _ _
      | exact LeO.none _
      | refine LeO.ite ?_ ?_
      | refine LeO.bind ?_ (fun _ => ?_)
theorem spec_fork.mono : ∀ a0 a1 a2 k, LeO (spec_fork.f k a0 a1 a2) (spec_fork.f (k + 1) a0 a1 a2) := by
  intro a0 a1 a2 k
  have ih0 := spec_fork.mono_l k
  unfold spec_fork.f
  repeat' first
      | (with_reducible exact ih0 _ _ _)
      | (with_reducible exact LeO.refl _)
      | (with_reducible exact LeO.none _)
      | (with_reducible refine LeO.ite ?_ ?_)
      | (with_reducible refine LeO.bind ?_ (fun _ => ?_))
      | exact ih0 _ _ _
      | exact LeO.none _
      | refine LeO.ite ?_ ?_
      | refine LeO.bind ?_ (fun _ => ?_)
set_option maxHeartbeats 8000000 in
set_option maxRecDepth 100000 in
theorem spec_fork.calls (k : Nat) (a0_0 : Int) (a0_1 : Int) (a1 : Int) (r1 : Int) (r2 : Int) (w : World) (h : spec_fork.f k a0_0 a0_1 a1 = some (r1, r2)) :
    Calls Tryd.prog 31 #[.agg #[.int .u64 a0_0, .int .u64 a0_1], .int .u64 a1] w fun e w' => e = .returned (.agg #[.int .u64 r1, .int .u64 r2]) ∧ Below w.heap.size w w' := by
  have hu27 := Tryd.underlying27
  have HB := Aside0.mk (Below.refl w.heap.size w)
  have H : (spec_fork.l0 k a1 a0_0 a0_1) = some (r1, r2) := h
  clear h
  have H' := Aside0.mk H
  clear H
  go_enter Tryd.func31, Tryd.ntmps31
  go_wp2_with (first | ((with_reducible refine gate_dst (N := 2) rfl ?_); refine box_event ?hg (N := 2) ?hd (cs := #[.int .u64 a0_0, .int .u64 a0_1]) (t := 27) ?hr ?_; (case hd => rfl); (case hg => rfl); (case hr => first | (go_simp; done) | (go_simp; rfl)); intro gb311 hg w3 hbox hb; have n0_ := Aside0.mk (below_step (by repeat (first | (with_reducible first | exact HB.out | apply below_alloc | apply pw_below_drewN | apply below_drew1) | exact HB.out)) hb); have n1_ := Aside0.mk (hbox); have n2_ := Aside0.mk ((by rw [hg]; exact (below_size (by repeat (first | (with_reducible first | exact HB.out | apply below_alloc | apply pw_below_drewN | apply below_drew1) | exact HB.out))) : w.heap.size ≤ gb311)); have n3_ := Aside0.mk ((by rw [hg]; exact (below_size (by repeat (first | (with_reducible first | exact HB.out | apply below_alloc | apply pw_below_drewN | apply below_drew1) | exact HB.out))) : w.heap.size ≤ gb311)); clear HB; have HB := n0_; have BK311 := n1_; have GW311 := n2_; have GE311 := n3_; clear n0_ n1_ n2_ n3_; clear hb hbox hg) | ((with_reducible refine gate_dst (N := 4) rfl ?_); refine box_event ?hg (N := 4) ?hd (cs := #[.int .u64 0, .int .u64 0]) (t := 27) ?hr ?_; (case hd => rfl); (case hg => rfl); (case hr => first | (go_simp; done) | (go_simp; rfl)); intro gb312 hg w4 hbox hb; have n0_ := Aside0.mk (blk_below (g := gb311) (o := .cells #[.int .u64 a0_0, .int .u64 a0_1] 27 (0, 0)) (by (with_reducible repeat (first | refine blk_drewN ?_ _ | refine blk_drew ?_ | refine blk_alloc ?_ _)); exact BK311.out) hb); have n1_ := Aside0.mk (below_step (by repeat (first | (with_reducible first | exact HB.out | apply below_alloc | apply pw_below_drewN | apply below_drew1 | refine below_set ?_ GE311.out) | exact HB.out)) hb); have n2_ := Aside0.mk (hbox); have n3_ := Aside0.mk ((by rw [hg]; exact (below_size (by repeat (first | (with_reducible first | exact HB.out | apply below_alloc | apply pw_below_drewN | apply below_drew1 | refine below_set ?_ GE311.out) | exact HB.out))) : w.heap.size ≤ gb312)); have n4_ := Aside0.mk ((by rw [hg]; exact (below_size (by repeat (first | (with_reducible first | exact HB.out | apply below_alloc | apply pw_below_drewN | apply below_drew1 | refine below_set ?_ GE311.out) | exact HB.out))) : w.heap.size ≤ gb312)); have n5_ := Aside0.mk ((by rw [hg]; exact Nat.ne_of_lt (blk_lt (g := gb311) (o := .cells #[.int .u64 a0_0, .int .u64 a0_1] 27 (0, 0)) (by (with_reducible repeat (first | refine blk_drewN ?_ _ | refine blk_drew ?_ | refine blk_alloc ?_ _)); exact BK311.out)) : gb311 ≠ gb312)); have n6_ := Aside0.mk ((by rw [hg]; exact Nat.ne_of_gt (blk_lt (g := gb311) (o := .cells #[.int .u64 a0_0, .int .u64 a0_1] 27 (0, 0)) (by (with_reducible repeat (first | refine blk_drewN ?_ _ | refine blk_drew ?_ | refine blk_alloc ?_ _)); exact BK311.out)) : gb312 ≠ gb311)); clear BK311; clear HB; have BK311 := n0_; have HB := n1_; have BK312 := n2_; have GW312 := n3_; have GE312 := n4_; have NB311_312 := n5_; have NB312_311 := n6_; clear n0_ n1_ n2_ n3_ n4_ n5_ n6_; clear hb hbox hg))
  (try simp only [Act.put, List.setIfInBounds_toArray, List.set_cons_zero, List.set_cons_succ])
  go_loopg [] k (fun kq w' => ∃ (x312000_1 : Int) (x312001_1 : Int), Aside0 (spec_fork.l0 kq a1 x312000_1 x312001_1 = some (r1, r2)) ∧ Aside0 (kq ≤ k) ∧ Aside0 (w'.heap[gb311]? = some (.cells #[.int .u64 x312000_1, .int .u64 x312001_1] 27 (0, 0))) ∧ Aside0 (w'.heap[gb312]? = some (.cells #[.int .u64 0, .int .u64 0] 27 (0, 0))) ∧ Aside0 (Below w.heap.size w w'))
  case atStart => exact ⟨(a0_0), (a0_1), H', ⟨Nat.le_refl _⟩, ⟨by (with_reducible repeat (first | refine blk_drewN ?_ _ | refine blk_drew ?_ | refine blk_alloc ?_ _)); exact BK311.out⟩, ⟨by (with_reducible repeat (first | refine blk_drewN ?_ _ | refine blk_drew ?_ | refine blk_alloc ?_ _)); exact BK312.out⟩, ⟨by repeat (first | (with_reducible first | exact HB.out | apply below_alloc | apply pw_below_drewN | apply below_drew1 | refine below_set ?_ GE311.out | refine below_set ?_ GE312.out) | exact HB.out)⟩⟩
  case round =>
    clear H'
    try clear p2
    try clear c3
    obtain ⟨x312000_1, x312001_1, HA, HK1, BK311, BK312, HB⟩ := hrel
    cases gk with
    | zero => exact absurd HA.out (by simp [spec_fork.l0])
    | succ k1 =>
      have H := HA.out
      clear HA
      simp only [spec_fork.l0] at H
      by_cases c5 : 0 ≤ x312000_1
      · rw [if_pos c5] at H
        have c5b0 := eq_true c5
        have c5b1 : decide (0 ≤ x312000_1) = true := decide_eq_true c5
        clear c5
        obtain ⟨ji6, hji6⟩ : ∃ j_ : Int, (shr .u64 a1 x312000_1) = j_ := ⟨_, rfl⟩
        replace H : (if (x312001_1 / 2) = ((ji6) / 2) then (some (x312000_1, ji6)) else (spec_fork.l0 k1 a1 (IntKind.u64.wrap (x312000_1 + 1)) (x312001_1 / 2))) = some (r1, r2) := by first | (rw [hji6] at H; exact H) | (simp only [hji6] at H ⊢; exact H)
        have hji6_ : (a1 / 2 ^ min x312000_1.toNat 64) = ji6 := hji6
        have hji6z : x312000_1 ≤ 64 → (a1 / 2 ^ x312000_1.toNat) = ji6 := shr_small hji6
        by_cases c7 : (x312001_1 / 2) = ((ji6) / 2)
        · rw [if_pos c7] at H
          have c7b0 : ((x312001_1 / 2) == ((ji6) / 2)) = true := beq_iff_eq.mpr c7
          have c7b1 : ((x312001_1 / 2) != ((ji6) / 2)) = false := bne_eq_false_iff_eq.mpr c7
          clear c7
          have c8b0 := eq_true (of_decide_eq_true (by first | (with_reducible assumption) | assumption) : 0 ≤ x312000_1)
          simp only [Option.some.injEq, Prod.mk.injEq] at H
          obtain ⟨rfl, rfl⟩ := H
          have hnb9 := NB311_312.out
          have hnc9 := NB312_311.out
          have hcz10_0 : wr.cell? ⟨gb311, 0, none⟩ = some (.int .u64 x312000_1) := (blk_cell BK311.out 0).trans rfl
          have hcz10_1 : wr.cell? ⟨gb311, 1, none⟩ = some (.int .u64 x312001_1) := (blk_cell BK311.out 1).trans rfl
          have hfz10_0 := blk_frozen BK311.out 0
          have hfz10_1 := blk_frozen BK311.out 1
          have hcz11_0 : wr.cell? ⟨gb312, 0, none⟩ = some (.int .u64 0) := (blk_cell BK312.out 0).trans rfl
          have hcz11_1 : wr.cell? ⟨gb312, 1, none⟩ = some (.int .u64 0) := (blk_cell BK312.out 1).trans rfl
          have hfz11_0 := blk_frozen BK312.out 0
          have hfz11_1 := blk_frozen BK312.out 1
          go_wp2
          refine bodyPost_ret (results_cell_row rfl _ _ gb312 27 #[.int .u64 x312000_1, .int .u64 ji6] (0, 0) _ rfl (by (with_reducible repeat (first | refine blk_drewN ?_ _ | refine blk_drew ?_ | refine blk_alloc ?_ _)); refine blk_put (cs := #[.int .u64 x312000_1, .int .u64 0]) ?_ 1 _ rfl; (with_reducible repeat (first | refine blk_drewN ?_ _ | refine blk_drew ?_ | refine blk_alloc ?_ _)); refine blk_put (cs := #[.int .u64 0, .int .u64 0]) ?_ 0 _ rfl; (with_reducible repeat (first | refine blk_drewN ?_ _ | refine blk_drew ?_ | refine blk_alloc ?_ _)); exact BK312.out) Tryd.underlying27 rfl (by kernel_rfl)) rfl ?_
          exact ⟨by first | rfl | (simp [errW_none, errW_some] <;> rfl) | (simp only [← hji6]; first | rfl | (simp [errW_none, errW_some] <;> rfl)) | (simp [*, errW_none, errW_some] <;> rfl), by repeat (first | (with_reducible first | exact HB.out | apply below_alloc | apply pw_below_drewN | apply below_drew1 | refine below_set ?_ GE311.out | refine below_set ?_ GE312.out) | exact HB.out)⟩
        · rw [if_neg c7] at H
          have c7b0 : ((x312001_1 / 2) == ((ji6) / 2)) = false := beq_eq_false_iff_ne.mpr c7
          have c7b1 : ((x312001_1 / 2) != ((ji6) / 2)) = true := bne_iff_ne.mpr c7
          have H' := Aside0.mk H
          clear H
          have hnb12 := NB311_312.out
          have hnc12 := NB312_311.out
          have hcz13_0 : wr.cell? ⟨gb311, 0, none⟩ = some (.int .u64 x312000_1) := (blk_cell BK311.out 0).trans rfl
          have hcz13_1 : wr.cell? ⟨gb311, 1, none⟩ = some (.int .u64 x312001_1) := (blk_cell BK311.out 1).trans rfl
          have hfz13_0 := blk_frozen BK311.out 0
          have hfz13_1 := blk_frozen BK311.out 1
          go_wp2
          go_roundg k1
          case measure => have := HK1.out; omega
          case rel => exact ⟨(IntKind.u64.wrap (x312000_1 + 1)), (x312001_1 / 2), H', ⟨by have := HK1.out; omega⟩, ⟨by (with_reducible repeat (first | refine blk_drewN ?_ _ | refine blk_drew ?_ | refine blk_alloc ?_ _)); refine blk_put (cs := #[.int .u64 (IntKind.u64.wrap (x312000_1 + 1)), .int .u64 x312001_1]) ?_ 1 _ rfl; (with_reducible repeat (first | refine blk_drewN ?_ _ | refine blk_drew ?_ | refine blk_alloc ?_ _)); refine blk_put (cs := #[.int .u64 x312000_1, .int .u64 x312001_1]) ?_ 0 _ rfl; (with_reducible repeat (first | refine blk_drewN ?_ _ | refine blk_drew ?_ | refine blk_alloc ?_ _)); exact BK311.out⟩, ⟨by (with_reducible repeat (first | refine blk_drewN ?_ _ | refine blk_drew ?_ | refine blk_alloc ?_ _)); refine blk_far ?_ NB312_311.out _; (with_reducible repeat (first | refine blk_drewN ?_ _ | refine blk_drew ?_ | refine blk_alloc ?_ _)); refine blk_far ?_ NB312_311.out _; (with_reducible repeat (first | refine blk_drewN ?_ _ | refine blk_drew ?_ | refine blk_alloc ?_ _)); exact BK312.out⟩, ⟨by repeat (first | (with_reducible first | exact HB.out | apply below_alloc | apply pw_below_drewN | apply below_drew1 | refine below_set ?_ GE311.out | refine below_set ?_ GE312.out) | exact HB.out)⟩⟩
      · rw [if_neg c5] at H
        exact absurd H (by simp)

/-! ### spec_ConsistencyProof: function 17 -/
mutual
def spec_ConsistencyProof.j0 : Nat → Int → Int → Bool → Option ((List (S27)) × Int × Int × Int × Int)
  | 0, _, _, _ => none
  | k + 1, x0, x1, x15 => if x15 = true then (some (([] : List (S27)), 0, 0, 0, 0)) else ((spec_last.f x0).bind fun bt314 => ((spec_ProofParts.f k x0 x1).bind fun t316 => (if bt314.1 > 0 then ((spec_NodeOf.f k bt314.1 bt314.2).bind fun bt320 => (if 1 ≤ (t316.length : Int) then (spec_ConsistencyProof.j1 k x1 (t316.drop (1 : Int).toNat) (([(⟨bt320.1, bt320.2⟩ : S27)] : List (S27))) bt314.1 bt314.2) else (none))) else (spec_ConsistencyProof.j1 k x1 t316 ([] : List (S27)) bt314.1 bt314.2))))
def spec_ConsistencyProof.j1 : Nat → Int → List (S29) → List (S27) → Int → Int → Option ((List (S27)) × Int × Int × Int × Int)
  | 0, _, _, _, _, _ => none
  | k + 1, x1, x6, x7, x320000, x320001 => (spec_proofOf.f k x320000 x320001 x6).bind fun bt328 => (if bt328.2.2.2.2 > 0 then (if x7.length + bt328.1.length < 8796093022208 then ((spec_NodeOf.f k x320000 x320001).bind fun bt339 => ((spec_fork.f k bt339.1 bt339.2 x1).bind fun bt341 => (some ((x7 ++ bt328.1), bt341.1, bt341.2, wrap64 (bt328.2.2.2.1 + (x7.length : Int)), wrap64 (bt328.2.2.2.2 + (x7.length : Int)))))) else (none)) else (if x7.length + bt328.1.length < 8796093022208 then ((spec_NodeOf.f k x320000 x320001).bind fun bt346 => ((spec_fork.f k bt346.1 bt346.2 x1).bind fun bt348 => (some ((x7 ++ bt328.1), bt348.1, bt348.2, bt328.2.2.2.1, bt328.2.2.2.2)))) else (none)))
end
def spec_ConsistencyProof.f (k : Nat) (a0 : Int) (a1 : Int) : Option ((List (S27)) × Int × Int × Int × Int) := if a0 = 0 then (spec_ConsistencyProof.j0 k a0 a1 true) else (spec_ConsistencyProof.j0 k a0 a1 (a0 == a1))
theorem spec_ConsistencyProof.mono_l : ∀ k, (∀ y0 y1 y2, LeO (spec_ConsistencyProof.j0 k y0 y1 y2) (spec_ConsistencyProof.j0 (k + 1) y0 y1 y2)) ∧ (∀ y0 y1 y2 y3 y4, LeO (spec_ConsistencyProof.j1 k y0 y1 y2 y3 y4) (spec_ConsistencyProof.j1 (k + 1) y0 y1 y2 y3 y4))
  | 0 => ⟨fun _ _ _ r h => by simp [spec_ConsistencyProof.j0] at h, fun _ _ _ _ _ r h => by simp [spec_ConsistencyProof.j1] at h⟩
  | k + 1 => by
    obtain ⟨ih0, ih1⟩ := spec_ConsistencyProof.mono_l k
    refine ⟨?_, ?_⟩
    · intro y0 y1 y2
      unfold spec_ConsistencyProof.j0
      repeat' first
      | (with_reducible exact ih0 _ _ _)
      | (with_reducible exact ih1 _ _ _ _ _)
      | (with_reducible exact spec_NodeOf.mono _ _ _)
      | (with_reducible exact spec_ProofParts.mono _ _ _)
      | (with_reducible exact spec_fork.mono _ _ _ _)
      | (with_reducible exact spec_proofOf.mono _ _ _ _)
      | (with_reducible exact LeO.refl _)
      | (with_reducible exact LeO.none _)
      | (with_reducible refine LeO.ite ?_ ?_)
      | (with_reducible refine LeO.bind ?_ (fun _ => ?_))
      | exact ih0 _ _ _
      | exact ih1 _ _ _ _ _
      | exact spec_NodeOf.mono _ _ _
      | exact spec_ProofParts.mono _ _ _
      | exact spec_fork.mono _ _ _ _
      | exact spec_proofOf.mono _ _ _ _
      | exact LeO.none _
      | refine LeO.ite ?_ ?_
      | refine LeO.bind ?_ (fun _ => ?_)
    · intro y0 y1 y2 y3 y4
      unfold spec_ConsistencyProof.j1
      repeat' first
      | (with_reducible exact ih0 _ _ _)
      | (with_reducible exact ih1 _ _ _ _ _)
      | (with_reducible exact spec_NodeOf.mono _ _ _)
      | (with_reducible exact spec_ProofParts.mono _ _ _)
      | (with_reducible exact spec_fork.mono _ _ _ _)
      | (with_reducible exact spec_proofOf.mono _ _ _ _)
      | (with_reducible exact LeO.refl _)
      | (with_reducible exact LeO.none _)
      | (with_reducible refine LeO.ite ?_ ?_)
      | (with_reducible refine LeO.bind ?_ (fun _ => ?_))
      | exact ih0 _ _ _
      | exact ih1 _ _ _ _ _
      | exact spec_NodeOf.mono _ _ _
      | exact spec_ProofParts.mono _ _ _
      | exact spec_fork.mono _ _ _ _
      | exact spec_proofOf.mono _ _ _ _
      | exact LeO.none _
      | refine LeO.ite ?_ ?_
      | refine LeO.bind ?_ (fun _ => ?_)
theorem spec_ConsistencyProof.mono : ∀ a0 a1 k, LeO (spec_ConsistencyProof.f k a0 a1) (spec_ConsistencyProof.f (k + 1) a0 a1) := by
  intro a0 a1 k
  obtain ⟨ih0, ih1⟩ := spec_ConsistencyProof.mono_l k
  unfold spec_ConsistencyProof.f
  repeat' first
      | (with_reducible exact ih0 _ _ _)
      | (with_reducible exact ih1 _ _ _ _ _)
      | (with_reducible exact spec_NodeOf.mono _ _ _)
      | (with_reducible exact spec_ProofParts.mono _ _ _)
      | (with_reducible exact spec_fork.mono _ _ _ _)
      | (with_reducible exact spec_proofOf.mono _ _ _ _)
      | (with_reducible exact LeO.refl _)
      | (with_reducible exact LeO.none _)
      | (with_reducible refine LeO.ite ?_ ?_)
      | (with_reducible refine LeO.bind ?_ (fun _ => ?_))
      | exact ih0 _ _ _
      | exact ih1 _ _ _ _ _
      | exact spec_NodeOf.mono _ _ _
      | exact spec_ProofParts.mono _ _ _
      | exact spec_fork.mono _ _ _ _
      | exact spec_proofOf.mono _ _ _ _
      | exact LeO.none _
      | refine LeO.ite ?_ ?_
      | refine LeO.bind ?_ (fun _ => ?_)
set_option maxHeartbeats 8000000 in
set_option maxRecDepth 100000 in
theorem spec_ConsistencyProof.calls (k : Nat) (a0 : Int) (a1 : Int) (r1 : List (S27)) (r2 : Int) (r3 : Int) (r4 : Int) (r5 : Int) (w : World) (h : spec_ConsistencyProof.f k a0 a1 = some (r1, r2, r3, r4, r5)) :
    Calls Tryd.prog 17 #[.int .u64 a0, .int .u64 a1] w fun e w' => ∃ v0_ : Value, e = .returned (.agg #[v0_, .int .u64 r2, .int .u64 r3, .int .i64 r4, .int .i64 r5]) ∧ Kd.R k27 27 w' w.heap.size (fun _ => True) v0_ r1 ∧ Below w.heap.size w w' := by
  have hu36 := Tryd.underlying36
  have hu29 := Tryd.underlying29
  have hu27 := Tryd.underlying27
  have HB := Aside0.mk (Below.refl w.heap.size w)
  have H : (if a0 = 0 then (spec_ConsistencyProof.j0 k a0 a1 true) else (spec_ConsistencyProof.j0 k a0 a1 (a0 == a1))) = some (r1, r2, r3, r4, r5) := h
  clear h
  have HC3 := Aside0.mk H
  clear H
  go_enter Tryd.func17, Tryd.ntmps17
  go_upto_region 1 with (first | ((with_reducible refine gate_dst (N := 4) rfl ?_); refine box_event ?hg (N := 4) ?hd (cs := #[.slice none 0 0, .int .u64 0, .int .u64 0, .int .i64 0, .int .i64 0]) (t := 36) ?hr ?_; (case hd => rfl); (case hg => rfl); (case hr => first | (go_simp; done) | (go_simp; rfl)); intro gb313 hg w4 hbox hb; have n0_ := Aside0.mk (below_step (by repeat (first | (with_reducible first | exact HB.out | apply below_alloc | apply pw_below_drewN | apply below_drew1) | exact HB.out)) hb); have n1_ := Aside0.mk (hbox); have n2_ := Aside0.mk ((by rw [hg]; exact (below_size (by repeat (first | (with_reducible first | exact HB.out | apply below_alloc | apply pw_below_drewN | apply below_drew1) | exact HB.out))) : w.heap.size ≤ gb313)); have n3_ := Aside0.mk ((by rw [hg]; exact (below_size (by repeat (first | (with_reducible first | exact HB.out | apply below_alloc | apply pw_below_drewN | apply below_drew1) | exact HB.out))) : w.heap.size ≤ gb313)); clear HB; have HB := n0_; have BK313 := n1_; have GW313 := n2_; have GE313 := n3_; clear n0_ n1_ n2_ n3_; clear hb hbox hg))
  (try simp only [Act.put, List.setIfInBounds_toArray, List.set_cons_zero, List.set_cons_succ])
  go_cut [15] (fun v15 wc => ∃ (kq : Nat) (x15_2 : Bool), v15 = .bool x15_2 ∧ Aside0 (spec_ConsistencyProof.j0 kq a0 a1 x15_2 = some (r1, r2, r3, r4, r5)) ∧ Aside0 (kq ≤ k) ∧ Aside0 (wc.heap[gb313]? = some (.cells #[(.slice none 0 0), .int .u64 0, .int .u64 0, .int .i64 0, .int .i64 0] 36 (0, 0))) ∧ Aside0 (Below w.heap.size w wc))
  case first =>
    have H := HC3.out
    clear HC3
    by_cases c5 : a0 = 0
    · rw [if_pos c5] at H
      have c5b0 : (a0 == 0) = true := beq_iff_eq.mpr c5
      have c5b1 : (a0 != 0) = false := bne_eq_false_iff_eq.mpr c5
      clear c5
      (first | rw [c5b0] | (simp only [i64_w, i32_w]; rw [c5b0]) | skip)
      have H' := Aside0.mk H
      clear H
      go_wp2
      go_meet
      case rel => exact ⟨_, (true), (by first | rfl | (simp; done) | (simp [*]; done)), H', ⟨by first | omega | exact Nat.le_refl _⟩, ⟨by (with_reducible repeat (first | refine blk_drewN ?_ _ | refine blk_drew ?_ | refine blk_alloc ?_ _)); exact BK313.out⟩, ⟨by repeat (first | (with_reducible first | exact HB.out | apply below_alloc | apply pw_below_drewN | apply below_drew1 | refine below_set ?_ GE313.out) | exact HB.out)⟩⟩
    · rw [if_neg c5] at H
      have c5b0 : (a0 == 0) = false := beq_eq_false_iff_ne.mpr c5
      have c5b1 : (a0 != 0) = true := bne_iff_ne.mpr c5
      (first | rw [c5b0] | (simp only [i64_w, i32_w]; rw [c5b0]) | skip)
      have H' := Aside0.mk H
      clear H
      go_wp2
      go_meet
      case rel => exact ⟨_, ((a0 == a1)), (by first | rfl | (simp; done) | (simp [*]; done)), H', ⟨by first | omega | exact Nat.le_refl _⟩, ⟨by (with_reducible repeat (first | refine blk_drewN ?_ _ | refine blk_drew ?_ | refine blk_alloc ?_ _)); exact BK313.out⟩, ⟨by repeat (first | (with_reducible first | exact HB.out | apply below_alloc | apply pw_below_drewN | apply below_drew1 | refine below_set ?_ GE313.out) | exact HB.out)⟩⟩
  case rest =>
    clear HC3
    try clear c1
    try clear p2
    try clear c5
    try clear c5b0
    try clear c5b1
    obtain ⟨kq, x15_2, rfl, HA, HJ2, BK313, HB⟩ := hcut
    cases kq with
    | zero => exact absurd HA.out (by simp [spec_ConsistencyProof.j0])
    | succ kj2 =>
      have H := HA.out
      clear HA
      simp only [spec_ConsistencyProof.j0] at H
      by_cases c6 : x15_2 = true
      · subst c6
        have H1 : (some (([] : List (S27)), 0, 0, 0, 0)) = some (r1, r2, r3, r4, r5) := by rw [if_pos rfl] at H; exact H
        clear H
        have H := H1
        clear H1
        simp only [Option.some.injEq, Prod.mk.injEq] at H
        obtain ⟨rfl, rfl, rfl, rfl, rfl⟩ := H
        have hcz7_0 : wc.cell? ⟨gb313, 0, none⟩ = some (.slice none 0 0) := (blk_cell BK313.out 0).trans rfl
        have hcz7_1 : wc.cell? ⟨gb313, 1, none⟩ = some (.int .u64 0) := (blk_cell BK313.out 1).trans rfl
        have hcz7_2 : wc.cell? ⟨gb313, 2, none⟩ = some (.int .u64 0) := (blk_cell BK313.out 2).trans rfl
        have hcz7_3 : wc.cell? ⟨gb313, 3, none⟩ = some (.int .i64 0) := (blk_cell BK313.out 3).trans rfl
        have hcz7_4 : wc.cell? ⟨gb313, 4, none⟩ = some (.int .i64 0) := (blk_cell BK313.out 4).trans rfl
        have hfz7_0 := blk_frozen BK313.out 0
        have hfz7_1 := blk_frozen BK313.out 1
        have hfz7_2 := blk_frozen BK313.out 2
        have hfz7_3 := blk_frozen BK313.out 3
        have hfz7_4 := blk_frozen BK313.out 4
        go_wp2
        refine bodyPost_ret (results_cell_row rfl _ _ gb313 36 #[.slice none 0 0, .int .u64 0, .int .u64 0, .int .i64 0, .int .i64 0] (0, 0) _ rfl (by (with_reducible repeat (first | refine blk_drewN ?_ _ | refine blk_drew ?_ | refine blk_alloc ?_ _)); refine blk_put (cs := #[.slice none 0 0, .int .u64 0, .int .u64 0, .int .i64 0, .int .i64 0]) ?_ 4 _ rfl; (with_reducible repeat (first | refine blk_drewN ?_ _ | refine blk_drew ?_ | refine blk_alloc ?_ _)); refine blk_put (cs := #[.slice none 0 0, .int .u64 0, .int .u64 0, .int .i64 0, .int .i64 0]) ?_ 3 _ rfl; (with_reducible repeat (first | refine blk_drewN ?_ _ | refine blk_drew ?_ | refine blk_alloc ?_ _)); refine blk_put (cs := #[.slice none 0 0, .int .u64 0, .int .u64 0, .int .i64 0, .int .i64 0]) ?_ 2 _ rfl; (with_reducible repeat (first | refine blk_drewN ?_ _ | refine blk_drew ?_ | refine blk_alloc ?_ _)); refine blk_put (cs := #[.slice none 0 0, .int .u64 0, .int .u64 0, .int .i64 0, .int .i64 0]) ?_ 1 _ rfl; (with_reducible repeat (first | refine blk_drewN ?_ _ | refine blk_drew ?_ | refine blk_alloc ?_ _)); refine blk_put (cs := #[.slice none 0 0, .int .u64 0, .int .u64 0, .int .i64 0, .int .i64 0]) ?_ 0 _ rfl; (with_reducible repeat (first | refine blk_drewN ?_ _ | refine blk_drew ?_ | refine blk_alloc ?_ _)); exact BK313.out) Tryd.underlying36 rfl (by kernel_rfl)) rfl ?_
        exact ⟨_, by first | rfl | (simp [errW_none, errW_some] <;> rfl) | (simp [*, errW_none, errW_some] <;> rfl), by first | exact Kd.R_nil _ _ _ _ _ | exact Kd.N_nil _ _ _ _ _ | exact Kd.V_nil _ _ _ _ _ | exact Kd.Q_nil _ _ _ _ _ | exact Kd.S_nil _ _ _ _ _, by repeat (first | (with_reducible first | exact HB.out | apply below_alloc | apply pw_below_drewN | apply below_drew1 | refine below_set ?_ GE313.out) | exact HB.out)⟩
      · replace c6 := Bool.eq_false_iff.mpr c6
        subst c6
        have H1 : ((spec_last.f a0).bind fun bt314 => ((spec_ProofParts.f kj2 a0 a1).bind fun t316 => (if bt314.1 > 0 then ((spec_NodeOf.f kj2 bt314.1 bt314.2).bind fun bt320 => (if 1 ≤ (t316.length : Int) then (spec_ConsistencyProof.j1 kj2 a1 (t316.drop (1 : Int).toNat) (([(⟨bt320.1, bt320.2⟩ : S27)] : List (S27))) bt314.1 bt314.2) else (none))) else (spec_ConsistencyProof.j1 kj2 a1 t316 ([] : List (S27)) bt314.1 bt314.2)))) = some (r1, r2, r3, r4, r5) := by rw [if_neg (show ¬ (false = true) by decide)] at H; exact H
        clear H
        have H := H1
        clear H1
        replace H := Option.bind_eq_some_iff.mp H
        obtain ⟨⟨t314, t315⟩, A80, H⟩ := H
        replace H : ((spec_ProofParts.f kj2 a0 a1).bind fun t316 => (if t314 > 0 then ((spec_NodeOf.f kj2 t314 t315).bind fun bt320 => (if 1 ≤ (t316.length : Int) then (spec_ConsistencyProof.j1 kj2 a1 (t316.drop (1 : Int).toNat) (([(⟨bt320.1, bt320.2⟩ : S27)] : List (S27))) t314 t315) else (none))) else (spec_ConsistencyProof.j1 kj2 a1 t316 ([] : List (S27)) t314 t315))) = some (r1, r2, r3, r4, r5) := H
        have A8 := Aside0.mk A80
        clear A80
        replace H := Option.bind_eq_some_iff.mp H
        obtain ⟨t316, A90, H⟩ := H
        replace H : (if t314 > 0 then ((spec_NodeOf.f kj2 t314 t315).bind fun bt320 => (if 1 ≤ (t316.length : Int) then (spec_ConsistencyProof.j1 kj2 a1 (t316.drop (1 : Int).toNat) (([(⟨bt320.1, bt320.2⟩ : S27)] : List (S27))) t314 t315) else (none))) else (spec_ConsistencyProof.j1 kj2 a1 t316 ([] : List (S27)) t314 t315)) = some (r1, r2, r3, r4, r5) := H
        have A9 := Aside0.mk A90
        clear A90
        have HC10 := Aside0.mk H
        clear H
        go_upto_if 24 with (first | ((with_reducible refine gate_callee (f := 27) rfl ?_); refine goesL_ (some 18) rfl rfl Tryd.func27 (by kernel_rfl) rfl #[.int .u64 a0] rfl (by (try simp only [List.map_toArray, List.map_cons, List.map_nil]); first | done | rfl | (simp only [List.length_drop, List.length_take]; rfl)) ?_; (with_reducible refine (spec_last.calls a0 t314 t315 _ A8.out).mono ?_); rintro e w11 ⟨rfl, hb⟩; refine ⟨_, rfl, ?_⟩; have n0_ := Aside0.mk (blk_below (g := gb313) (o := .cells #[.slice none 0 0, .int .u64 0, .int .u64 0, .int .i64 0, .int .i64 0] 36 (0, 0)) (by (with_reducible repeat (first | refine blk_drewN ?_ _ | refine blk_drew ?_ | refine blk_alloc ?_ _)); exact BK313.out) hb); have n1_ := Aside0.mk (below_step (by repeat (first | (with_reducible first | exact HB.out | apply below_alloc | apply pw_below_drewN | apply below_drew1 | refine below_set ?_ GE313.out) | exact HB.out)) hb); clear BK313; clear HB; have BK313 := n0_; have HB := n1_; clear n0_ n1_; (try clear hb); (try clear hb2); (try clear hk); (try clear hi)) | ((with_reducible refine gate_callee (f := 28) rfl ?_); refine goesL_ (some 21) rfl rfl Tryd.func28 (by kernel_rfl) rfl #[.int .u64 a0, .int .u64 a1] rfl (by (try simp only [List.map_toArray, List.map_cons, List.map_nil]); first | done | rfl | (simp only [List.length_drop, List.length_take]; rfl)) ?_; (with_reducible refine (spec_ProofParts.calls kj2 a0 a1 t316 _ A9.out).mono ?_); rintro e w12 ⟨v317, rfl, ho0, hb⟩; refine ⟨_, rfl, ?_⟩; have n0_ := Aside0.mk (Kd.R_lower ho0 (below_size (by repeat (first | (with_reducible first | exact HB.out | apply below_alloc | apply pw_below_drewN | apply below_drew1 | refine below_set ?_ GE313.out) | exact HB.out)))); have n1_ := Aside0.mk (blk_below (g := gb313) (o := .cells #[.slice none 0 0, .int .u64 0, .int .u64 0, .int .i64 0, .int .i64 0] 36 (0, 0)) (by (with_reducible repeat (first | refine blk_drewN ?_ _ | refine blk_drew ?_ | refine blk_alloc ?_ _)); exact BK313.out) hb); have n2_ := Aside0.mk (below_step (by repeat (first | (with_reducible first | exact HB.out | apply below_alloc | apply pw_below_drewN | apply below_drew1 | refine below_set ?_ GE313.out) | exact HB.out)) hb); clear BK313; clear HB; have HO318 := n0_; have BK313 := n1_; have HB := n2_; clear n0_ n1_ n2_; (try clear hb); (try clear hb2); (try clear hk); (try clear hi); (try clear ho0)) | ((with_reducible refine gate_dst (N := 5) rfl ?_); refine box_event ?hg (N := 5) ?hd (cs := #[.int .u64 0, .int .u64 0]) (t := 29) ?hr ?_; (case hd => rfl); (case hg => rfl); (case hr => first | (go_simp; done) | (go_simp; rfl)); intro gb319 hg w13 hbox hb; have n0_ := Aside0.mk (Kd.R_below (Kd.R_elderB (by (with_reducible repeat (first | apply Kd.R_alloc | apply Kd.R_drewN | apply Kd.R_drew)); exact HO318.out) gb319 (Nat.le_of_eq hg.symm)) hb); have n1_ := Aside0.mk (blk_below (g := gb313) (o := .cells #[.slice none 0 0, .int .u64 0, .int .u64 0, .int .i64 0, .int .i64 0] 36 (0, 0)) (by (with_reducible repeat (first | refine blk_drewN ?_ _ | refine blk_drew ?_ | refine blk_alloc ?_ _)); exact BK313.out) hb); have n2_ := Aside0.mk (below_step (by repeat (first | (with_reducible first | exact HB.out | apply below_alloc | apply pw_below_drewN | apply below_drew1 | refine below_set ?_ GE313.out) | exact HB.out)) hb); have n3_ := Aside0.mk (hbox); have n4_ := Aside0.mk ((by rw [hg]; exact (below_size (by repeat (first | (with_reducible first | exact HB.out | apply below_alloc | apply pw_below_drewN | apply below_drew1 | refine below_set ?_ GE313.out) | exact HB.out))) : w.heap.size ≤ gb319)); have n5_ := Aside0.mk ((by rw [hg]; exact (below_size (by repeat (first | (with_reducible first | exact HB.out | apply below_alloc | apply pw_below_drewN | apply below_drew1 | refine below_set ?_ GE313.out) | exact HB.out))) : w.heap.size ≤ gb319)); have n6_ := Aside0.mk ((by rw [hg]; exact Nat.ne_of_lt (blk_lt (g := gb313) (o := .cells #[.slice none 0 0, .int .u64 0, .int .u64 0, .int .i64 0, .int .i64 0] 36 (0, 0)) (by (with_reducible repeat (first | refine blk_drewN ?_ _ | refine blk_drew ?_ | refine blk_alloc ?_ _)); exact BK313.out)) : gb313 ≠ gb319)); have n7_ := Aside0.mk ((by rw [hg]; exact Nat.ne_of_gt (blk_lt (g := gb313) (o := .cells #[.slice none 0 0, .int .u64 0, .int .u64 0, .int .i64 0, .int .i64 0] 36 (0, 0)) (by (with_reducible repeat (first | refine blk_drewN ?_ _ | refine blk_drew ?_ | refine blk_alloc ?_ _)); exact BK313.out)) : gb319 ≠ gb313)); clear HO318; clear BK313; clear HB; have HO318 := n0_; have BK313 := n1_; have HB := n2_; have BK319 := n3_; have GW319 := n4_; have GE319 := n5_; have NB313_319 := n6_; have NB319_313 := n7_; clear n0_ n1_ n2_ n3_ n4_ n5_ n6_ n7_; clear hb hbox hg; have hnb14 := NB319_313.out; have hnc14 := NB313_319.out; have hcz15_0 : w13.cell? ⟨gb319, 0, none⟩ = some (.int .u64 0) := (blk_cell BK319.out 0).trans rfl; have hcz15_1 : w13.cell? ⟨gb319, 1, none⟩ = some (.int .u64 0) := (blk_cell BK319.out 1).trans rfl; have hfz15_0 := blk_frozen BK319.out 0; have hfz15_1 := blk_frozen BK319.out 1))
        (try simp only [Act.put, List.setIfInBounds_toArray, List.set_cons_zero, List.set_cons_succ])
        go_cut [6, 7] (fun v6 v7 wc => ∃ (kq : Nat) (x6_9 : List (S29)) (x7_9 : List (S27)), Aside0 (spec_ConsistencyProof.j1 kq a1 x6_9 x7_9 t314 t315 = some (r1, r2, r3, r4, r5)) ∧ Aside0 (kq ≤ kj2) ∧ Aside0 (Kd.Q k29 29 wc w.heap.size (fun k_ => k_ ≠ gb319) v6 x6_9) ∧ Aside0 (Kd.R k27 27 wc w.heap.size (fun _ => True) v7 x7_9) ∧ Aside0 (wc.heap[gb313]? = some (.cells #[(.slice none 0 0), .int .u64 0, .int .u64 0, .int .i64 0, .int .i64 0] 36 (0, 0))) ∧ Aside0 (wc.heap[gb319]? = some (.cells #[.int .u64 t314, .int .u64 t315] 29 (0, 0))) ∧ Aside0 (Below w.heap.size w wc))
        case first =>
          have H := HC10.out
          clear HC10
          by_cases c16 : t314 > 0
          · rw [if_pos c16] at H
            have c16b0 : decide (0 < t314) = true := decide_eq_true c16
            clear c16
            (first | rw [c16b0] | (simp only [i64_w, i32_w]; rw [c16b0]) | skip)
            replace H := Option.bind_eq_some_iff.mp H
            obtain ⟨⟨t320, t321⟩, A170, H⟩ := H
            replace H : (if 1 ≤ (t316.length : Int) then (spec_ConsistencyProof.j1 kj2 a1 (t316.drop (1 : Int).toNat) (([(⟨t320, t321⟩ : S27)] : List (S27))) t314 t315) else (none)) = some (r1, r2, r3, r4, r5) := H
            have A17 := Aside0.mk A170
            clear A170
            obtain ⟨y322, hy322⟩ : ∃ y_ : List (S27), y_ = (([(⟨t320, t321⟩ : S27)] : List (S27))) := ⟨_, rfl⟩
            replace H : (if 1 ≤ (t316.length : Int) then (spec_ConsistencyProof.j1 kj2 a1 (t316.drop (1 : Int).toNat) y322 t314 t315) else (none)) = some (r1, r2, r3, r4, r5) := by first | (rw [hy322]; with_reducible exact H) | (have H2_ := (Option.bind_some _ _).symm.trans H; rw [hy322]; with_reducible exact H2_) | (have H2_ := (Option.bind_some _ _).symm.trans H; with_reducible exact H2_) | with_reducible exact H | (rw [hy322]; exact H) | exact H
            have Ny322 := Aside0.mk hy322
            clear hy322
            by_cases c18 : 1 ≤ (t316.length : Int)
            · rw [if_pos c18] at H
              have c18b0 := eq_true c18
              have c18b1 : decide (1 ≤ (t316.length : Int)) = true := decide_eq_true c18
              clear c18
              obtain ⟨y325, hy325⟩ : ∃ y_ : List (S29), y_ = (t316.drop (1 : Int).toNat) := ⟨_, rfl⟩
              replace H : (spec_ConsistencyProof.j1 kj2 a1 y325 y322 t314 t315) = some (r1, r2, r3, r4, r5) := by first | (rw [hy325]; with_reducible exact H) | (have H2_ := (Option.bind_some _ _).symm.trans H; rw [hy325]; with_reducible exact H2_) | (have H2_ := (Option.bind_some _ _).symm.trans H; with_reducible exact H2_) | with_reducible exact H | (rw [hy325]; exact H) | exact H
              have Ny325 := Aside0.mk hy325
              clear hy325
              have H' := Aside0.mk H
              clear H
              try go_wp2
              have n0_ : Aside0 (Kd.R k29 29 ((w13.setCell ⟨gb319, 0, none⟩ (.int .u64 t314)).setCell ⟨gb319, 1, none⟩ (.int .u64 t315)) w.heap.size (fun k_ => k_ ≠ gb319) v317 t316) := ⟨by (with_reducible repeat (first | apply Kd.R_alloc | apply Kd.R_drewN | apply Kd.R_drew)); exact Kd.R_mono (Kd.R_far (p := ⟨gb319, 1, none⟩) (Kd.R_far (p := ⟨gb319, 0, none⟩) (Kd.R_mono HO318.out (fun k_ hk => (⟨hk, hk.2⟩ : _ ∧ k_ ≠ gb319))) (fun _ hk => hk.2) (.int .u64 t314)) (fun _ hk => hk.2) (.int .u64 t315)) (fun _ hk => hk.1.2)⟩
              have n1_ : Aside0 (((w13.setCell ⟨gb319, 0, none⟩ (.int .u64 t314)).setCell ⟨gb319, 1, none⟩ (.int .u64 t315)).heap[gb313]? = some (.cells #[.slice none 0 0, .int .u64 0, .int .u64 0, .int .i64 0, .int .i64 0] 36 (0, 0))) := ⟨by (with_reducible repeat (first | refine blk_drewN ?_ _ | refine blk_drew ?_ | refine blk_alloc ?_ _)); refine blk_far ?_ NB313_319.out _; (with_reducible repeat (first | refine blk_drewN ?_ _ | refine blk_drew ?_ | refine blk_alloc ?_ _)); refine blk_far ?_ NB313_319.out _; (with_reducible repeat (first | refine blk_drewN ?_ _ | refine blk_drew ?_ | refine blk_alloc ?_ _)); exact BK313.out⟩
              have n2_ : Aside0 (((w13.setCell ⟨gb319, 0, none⟩ (.int .u64 t314)).setCell ⟨gb319, 1, none⟩ (.int .u64 t315)).heap[gb319]? = some (.cells #[.int .u64 t314, .int .u64 t315] 29 (0, 0))) := ⟨by (with_reducible repeat (first | refine blk_drewN ?_ _ | refine blk_drew ?_ | refine blk_alloc ?_ _)); refine blk_put (cs := #[.int .u64 t314, .int .u64 0]) ?_ 1 _ rfl; (with_reducible repeat (first | refine blk_drewN ?_ _ | refine blk_drew ?_ | refine blk_alloc ?_ _)); refine blk_put (cs := #[.int .u64 0, .int .u64 0]) ?_ 0 _ rfl; (with_reducible repeat (first | refine blk_drewN ?_ _ | refine blk_drew ?_ | refine blk_alloc ?_ _)); exact BK319.out⟩
              have n3_ : Aside0 (Below w.heap.size w ((w13.setCell ⟨gb319, 0, none⟩ (.int .u64 t314)).setCell ⟨gb319, 1, none⟩ (.int .u64 t315))) := ⟨by repeat (first | (with_reducible first | exact HB.out | apply below_alloc | apply pw_below_drewN | apply below_drew1 | refine below_set ?_ GE313.out | refine below_set ?_ GE319.out) | exact HB.out)⟩
              (try clear HO318)
              (try clear BK313)
              (try clear BK319)
              (try clear HB)
              generalize ((w13.setCell ⟨gb319, 0, none⟩ (.int .u64 t314)).setCell ⟨gb319, 1, none⟩ (.int .u64 t315)) = w19 at n0_ n1_ n2_ n3_ ⊢
              have HO318 := n0_
              have BK313 := n1_
              have BK319 := n2_
              have HB := n3_
              clear n0_ n1_ n2_ n3_
              have n0_ := Aside0.mk (Kd.R_drew HO318.out)
              have n1_ := Aside0.mk (blk_drew BK313.out)
              have n2_ := Aside0.mk (blk_drew BK319.out)
              have n3_ := Aside0.mk (below_drew1 HB.out)
              clear HO318
              clear BK313
              clear BK319
              clear HB
              have HO318 := n0_
              have BK313 := n1_
              have BK319 := n2_
              have HB := n3_
              clear n0_ n1_ n2_ n3_
              obtain ⟨Ao21, co21, eo21⟩ := Kd.R_slice HO318.out
              (first | subst eo21 | (injection eo21 with f1_ f2_ f3_; have f4_ := f1_.symm; have f5_ := f3_.symm; clear f1_ f2_ f3_; subst f4_; subst f5_))
              have q22 : (1 : Int) ≤ ((t316.length : Int) : Int) := of_decide_eq_true (by first | (with_reducible assumption) | assumption)
              obtain ⟨i022, hi022, _, hsz22, _⟩ := info_parts info29
              have hcut22 := cut_from (P := Tryd.prog) 60 29 .i64 Tryd.underlying60 hi022 2 hsz22 Ao21 t316.length co21 1 (by omega) q22
              have hr22 := Kd.Q_drop (k := (1 : Int).toNat) (Kd.Q_of_R HO318.out) (by omega)
              obtain ⟨A22, hA22⟩ : ∃ A1, A1 = (if co21 = (1 : Int).toNat then Ao21 else (Ao21 : Option Addr).map (·.add ((1 : Int).toNat * 2))) := ⟨_, rfl⟩
              obtain ⟨c22, hc22⟩ : ∃ c1, c1 = co21 - (1 : Int).toNat := ⟨_, rfl⟩
              have hy22 : y325.length = t316.length - (1 : Int).toNat := (by rw [Ny325.out, List.length_drop])
              rw [← Ny325.out] at hr22
              rw [← hy22, ← hA22, ← hc22] at hcut22
              replace hr22 : Kd.Q k29 29 _ w.heap.size (fun k_ => k_ ≠ gb319) (.slice A22 y325.length c22) y325 := (by rw [hA22, hc22, hy22]; exact hr22)
              have HE22 : Aside0 ((Value.slice A22 y325.length c22).ownBlock = (.slice Ao21 t316.length co21 : Value).ownBlock) := ⟨by rw [hA22]; split <;> (cases (Ao21 : Option Addr) <;> rfl)⟩
              clear hy22 hi022 hsz22 HO318 hA22 hc22
              have HO327 := Aside0.mk hr22
              clear hr22
              replace q22 := eq_true q22
              refine start_ (n := 7) (S := fun w' => w'.cell? ⟨gb319, 0, none⟩ = some (.int .u64 t314) ∧ w'.cell? ⟨gb319, 1, none⟩ = some (.int .u64 t315)) (ds := []) #[false, false, false, false, false, false, false] (by kernel_rfl) rfl rfl ⟨(blk_cell BK319.out 0).trans rfl, (blk_cell BK319.out 1).trans rfl⟩ (fun hHeld => ?_)
              generalize w19.drew = w20 at BK313 BK319 HB HO327 hHeld ⊢
              refine pure_ (i := 3) (N := some 28) (v := ?_) (a' := ?_) #[false, false, false, true, false, false, false] rfl rfl (by kernel_rfl) (fun _ _ _ h => h) (Or.inl ⟨by rfl, ?_⟩) ?_ ?_
              rotate_left
              · intro w'
                go_simp
                with_reducible rfl
              rotate_left
              · simp only [Act.put, List.setIfInBounds_toArray, List.set_cons_zero, List.set_cons_succ, i64_w, i32_w]
                rfl
              refine pure_ (i := 4) (N := some 29) (v := ?_) (a' := ?_) #[false, false, false, true, true, false, false] rfl rfl (by kernel_rfl) (fun _ _ _ h => h) (Or.inl ⟨by rfl, ?_⟩) ?_ ?_
              rotate_left
              · intro w'
                go_simp
                with_reducible rfl
              rotate_left
              · simp only [Act.put, List.setIfInBounds_toArray, List.set_cons_zero, List.set_cons_succ, i64_w, i32_w]
                rfl
              refine take_ (i := 0) (N := some 25) (v := ?_) (a' := ?_) #[true, false, false, true, true, false, false] rfl rfl (by kernel_rfl) (fun _ _ _ h => h) (Or.inl ⟨by rfl, ?_⟩) hHeld ?_ ?_
              rotate_left
              · rintro w' ⟨s0, s1⟩
                go_simp
                with_reducible rfl
              rotate_left
              · simp only [Act.put, List.setIfInBounds_toArray, List.set_cons_zero, List.set_cons_succ, i64_w, i32_w]
                rfl
              refine one_ (i := 1) (N := some 26) #[true, true, false, true, true, false, false] rfl rfl (by kernel_rfl) (by decide) (fun K hK => ?_)
              refine goes_ Tryd.func29 (by kernel_rfl) rfl #[.agg #[.int .u64 t314, .int .u64 t315]] (by rfl) rfl rfl (by (try simp only [List.map_toArray, List.map_cons, List.map_nil]); first | done | rfl | (simp only [List.length_drop, List.length_take]; rfl)) ?_
              with_reducible refine (spec_NodeOf.calls kj2 t314 t315 t320 t321 _ A17.out).mono ?_
              rintro e w23 ⟨rfl, hb⟩
              refine ⟨_, rfl, ?_⟩
              have n0_ := Aside0.mk (Kd.Q_below (by (with_reducible repeat (first | apply Kd.Q_alloc | apply Kd.Q_drewN | apply Kd.Q_drew)); exact HO327.out) hb)
              have n1_ := Aside0.mk (blk_below (g := gb313) (o := .cells #[.slice none 0 0, .int .u64 0, .int .u64 0, .int .i64 0, .int .i64 0] 36 (0, 0)) (by (with_reducible repeat (first | refine blk_drewN ?_ _ | refine blk_drew ?_ | refine blk_alloc ?_ _)); exact BK313.out) hb)
              have n2_ := Aside0.mk (blk_below (g := gb319) (o := .cells #[.int .u64 t314, .int .u64 t315] 29 (0, 0)) (by (with_reducible repeat (first | refine blk_drewN ?_ _ | refine blk_drew ?_ | refine blk_alloc ?_ _)); exact BK319.out) hb)
              have n3_ := Aside0.mk (below_step (by repeat (first | (with_reducible first | exact HB.out | apply below_alloc | apply pw_below_drewN | apply below_drew1 | refine below_set ?_ GE313.out | refine below_set ?_ GE319.out) | exact HB.out)) hb)
              clear HO327
              clear BK313
              clear BK319
              clear HB
              have HO327 := n0_
              have BK313 := n1_
              have BK319 := n2_
              have HB := n3_
              clear n0_ n1_ n2_ n3_
              (try clear hb)
              (try clear hb2)
              (try clear hk)
              (try clear hi)
              refine hK.out _ _ ⟨(blk_cell BK319.out 0).trans rfl, (blk_cell BK319.out 1).trans rfl⟩ (fun hHeld => ?_)
              clear hK K
              refine norm_ (a' := ?_) ?_ ?_
              rotate_left
              · show Act.put _ (some 26) _ = _
                simp only [Act.put, List.setIfInBounds_toArray, List.set_cons_zero, List.set_cons_succ, i64_w, i32_w]
                rfl
              refine one_ (i := 2) (N := some 27) #[true, true, true, true, true, false, false] rfl rfl (by kernel_rfl) (by decide) (fun K hK => ?_)
              refine Kd.R_lit_step k27 _ 27 ?hg (N := 27) ?hd (xs := ([(⟨t320, t321⟩ : S27)] : List (S27))) (inner := [.int .u64 t320, .int .u64 t321]) (ok := fun _ => True) (okp := fun _ => True) ?hr ?hp (fun _ hk => hk) trivial (Below.refl _ _) (Nat.le_refl _) (by simp) ?_; (case hd => rfl); (case hg => rfl); (case hr => first | (go_simp; done) | (go_simp; rfl)); (case hp => exact (Reps.c2 (show Kd.M k27 _ _ _ (⟨t320, t321⟩ : S27) [.int .u64 t320, .int .u64 t321] from (k27_mkM _ _ _ (⟨t320, t321⟩ : S27) )) (Reps.none _ _)))
              intro v323 w24 ho25 hb hg_ hnew_
              clear hg_ hnew_
              (first | rw [← Ny322.out] at ho25 | (simp only [Int.reduceToNat] at ho25; rw [← Ny322.out] at ho25))
              have n0_ := Aside0.mk (Kd.Q_below (by (with_reducible repeat (first | apply Kd.Q_alloc | apply Kd.Q_drewN | apply Kd.Q_drew)); exact HO327.out) hb)
              have n1_ := Aside0.mk (Kd.R_lower ho25 (below_size (by repeat (first | (with_reducible first | exact HB.out | apply below_alloc | apply pw_below_drewN | apply below_drew1 | refine below_set ?_ GE313.out | refine below_set ?_ GE319.out) | exact HB.out))))
              have n2_ := Aside0.mk (blk_below (g := gb313) (o := .cells #[.slice none 0 0, .int .u64 0, .int .u64 0, .int .i64 0, .int .i64 0] 36 (0, 0)) (by (with_reducible repeat (first | refine blk_drewN ?_ _ | refine blk_drew ?_ | refine blk_alloc ?_ _)); exact BK313.out) hb)
              have n3_ := Aside0.mk (blk_below (g := gb319) (o := .cells #[.int .u64 t314, .int .u64 t315] 29 (0, 0)) (by (with_reducible repeat (first | refine blk_drewN ?_ _ | refine blk_drew ?_ | refine blk_alloc ?_ _)); exact BK319.out) hb)
              have n4_ := Aside0.mk (below_step (by repeat (first | (with_reducible first | exact HB.out | apply below_alloc | apply pw_below_drewN | apply below_drew1 | refine below_set ?_ GE313.out | refine below_set ?_ GE319.out) | exact HB.out)) hb)
              clear HO327
              clear BK313
              clear BK319
              clear HB
              have HO327 := n0_
              have HO324 := n1_
              have BK313 := n2_
              have BK319 := n3_
              have HB := n4_
              clear n0_ n1_ n2_ n3_ n4_
              clear hb ho25
              refine hK.out _ _ ⟨(blk_cell BK319.out 0).trans rfl, (blk_cell BK319.out 1).trans rfl⟩ (fun hHeld => ?_)
              clear hK K
              refine norm_ (a' := ?_) ?_ ?_
              rotate_left
              · show Act.put _ (some 27) _ = _
                simp only [Act.put, List.setIfInBounds_toArray, List.set_cons_zero, List.set_cons_succ, i64_w, i32_w]
                rfl
              refine pure_ (i := 5) (N := some 7) (v := ?_) (a' := ?_) #[true, true, true, true, true, true, false] rfl rfl (by kernel_rfl) (fun _ _ _ h => h) (Or.inl ⟨by rfl, ?_⟩) ?_ ?_
              rotate_left
              · intro w'
                go_simp
                with_reducible rfl
              rotate_left
              · simp only [Act.put, List.setIfInBounds_toArray, List.set_cons_zero, List.set_cons_succ, i64_w, i32_w]
                rfl
              refine pure_ (i := 6) (N := some 6) (v := ?_) (a' := ?_) #[true, true, true, true, true, true, true] rfl rfl (by kernel_rfl) (fun _ _ _ h => h) (Or.inl ⟨by rfl, ?_⟩) ?_ ?_
              rotate_left
              · intro w'
                go_simp
                with_reducible rfl
              rotate_left
              · simp only [Act.put, List.setIfInBounds_toArray, List.set_cons_zero, List.set_cons_succ, i64_w, i32_w]
                rfl
              refine done_ (by kernel_rfl) ?_
              try go_wp2
              go_meet
              case rel => exact ⟨_, (y325), (y322), H', ⟨by have := HJ2.out; first | omega | exact Nat.le_refl _⟩, ⟨by (with_reducible repeat (first | apply Kd.Q_alloc | apply Kd.Q_drewN | apply Kd.Q_drew)); exact HO327.out⟩, ⟨by (with_reducible repeat (first | apply Kd.R_alloc | apply Kd.R_drewN | apply Kd.R_drew)); exact HO324.out⟩, ⟨by (with_reducible repeat (first | refine blk_drewN ?_ _ | refine blk_drew ?_ | refine blk_alloc ?_ _)); exact BK313.out⟩, ⟨by (with_reducible repeat (first | refine blk_drewN ?_ _ | refine blk_drew ?_ | refine blk_alloc ?_ _)); exact BK319.out⟩, ⟨by repeat (first | (with_reducible first | exact HB.out | apply below_alloc | apply pw_below_drewN | apply below_drew1 | refine below_set ?_ GE313.out | refine below_set ?_ GE319.out) | exact HB.out)⟩⟩
            · rw [if_neg c18] at H
              exact absurd H (by simp)
          · rw [if_neg c16] at H
            have c16b0 : decide (0 < t314) = false := decide_eq_false c16
            clear c16
            (first | rw [c16b0] | (simp only [i64_w, i32_w]; rw [c16b0]) | skip)
            have H' := Aside0.mk H
            clear H
            go_wp2
            go_meet
            case rel => exact ⟨_, (t316), (([] : List (S27))), H', ⟨by have := HJ2.out; first | omega | exact Nat.le_refl _⟩, ⟨Kd.Q_of_R (by (with_reducible repeat (first | apply Kd.R_alloc | apply Kd.R_drewN | apply Kd.R_drew)); exact Kd.R_mono (Kd.R_far (p := ⟨gb319, 1, none⟩) (Kd.R_far (p := ⟨gb319, 0, none⟩) (Kd.R_mono HO318.out (fun k_ hk => (⟨hk, hk.2⟩ : _ ∧ k_ ≠ gb319))) (fun _ hk => hk.2) (.int .u64 t314)) (fun _ hk => hk.2) (.int .u64 t315)) (fun _ hk => hk.1.2))⟩, ⟨by first | exact Kd.R_nil _ _ _ _ _ | exact Kd.N_nil _ _ _ _ _ | exact Kd.V_nil _ _ _ _ _ | exact Kd.Q_nil _ _ _ _ _ | exact Kd.S_nil _ _ _ _ _⟩, ⟨by (with_reducible repeat (first | refine blk_drewN ?_ _ | refine blk_drew ?_ | refine blk_alloc ?_ _)); refine blk_far ?_ NB313_319.out _; (with_reducible repeat (first | refine blk_drewN ?_ _ | refine blk_drew ?_ | refine blk_alloc ?_ _)); refine blk_far ?_ NB313_319.out _; (with_reducible repeat (first | refine blk_drewN ?_ _ | refine blk_drew ?_ | refine blk_alloc ?_ _)); exact BK313.out⟩, ⟨by (with_reducible repeat (first | refine blk_drewN ?_ _ | refine blk_drew ?_ | refine blk_alloc ?_ _)); refine blk_put (cs := #[.int .u64 t314, .int .u64 0]) ?_ 1 _ rfl; (with_reducible repeat (first | refine blk_drewN ?_ _ | refine blk_drew ?_ | refine blk_alloc ?_ _)); refine blk_put (cs := #[.int .u64 0, .int .u64 0]) ?_ 0 _ rfl; (with_reducible repeat (first | refine blk_drewN ?_ _ | refine blk_drew ?_ | refine blk_alloc ?_ _)); exact BK319.out⟩, ⟨by repeat (first | (with_reducible first | exact HB.out | apply below_alloc | apply pw_below_drewN | apply below_drew1 | refine below_set ?_ GE313.out | refine below_set ?_ GE319.out) | exact HB.out)⟩⟩
        case rest =>
          clear HC10
          try clear c1
          try clear c2
          try clear p2
          try clear q2
          try clear c5
          try clear c5b0
          try clear c5b1
          try clear c6
          try clear c14
          try clear c16
          try clear c16b0
          try clear c17
          try clear c18
          try clear c18b0
          try clear c18b1
          try clear c22
          try clear q22
          try clear hcz15_0
          try clear hcz15_1
          try clear hcz7_0
          try clear hcz7_1
          try clear hcz7_2
          try clear hcz7_3
          try clear hcz7_4
          try clear hfz15_0
          try clear hfz15_1
          try clear hfz7_0
          try clear hfz7_1
          try clear hfz7_2
          try clear hfz7_3
          try clear hfz7_4
          try clear p2
          try clear q22
          obtain ⟨kq, x6_9, x7_9, HA, HJ9, HO_6, HO_7, BK313, BK319, HB⟩ := hcut
          cases kq with
          | zero => exact absurd HA.out (by simp [spec_ConsistencyProof.j1])
          | succ kj9 =>
            have H := HA.out
            clear HA
            simp only [spec_ConsistencyProof.j1] at H
            replace H := Option.bind_eq_some_iff.mp H
            obtain ⟨⟨t328, t331, t332, t333, t334⟩, A260, H⟩ := H
            replace H : (if t334 > 0 then (if x7_9.length + t328.length < 8796093022208 then ((spec_NodeOf.f kj9 t314 t315).bind fun bt339 => ((spec_fork.f kj9 bt339.1 bt339.2 a1).bind fun bt341 => (some ((x7_9 ++ t328), bt341.1, bt341.2, wrap64 (t333 + (x7_9.length : Int)), wrap64 (t334 + (x7_9.length : Int)))))) else (none)) else (if x7_9.length + t328.length < 8796093022208 then ((spec_NodeOf.f kj9 t314 t315).bind fun bt346 => ((spec_fork.f kj9 bt346.1 bt346.2 a1).bind fun bt348 => (some ((x7_9 ++ t328), bt348.1, bt348.2, t333, t334)))) else (none))) = some (r1, r2, r3, r4, r5) := H
            have A26 := Aside0.mk A260
            clear A260
            by_cases c27 : t334 > 0
            · rw [if_pos c27] at H
              have c27b0 : decide (0 < t334) = true := decide_eq_true c27
              clear c27
              by_cases c28 : x7_9.length + t328.length < 8796093022208
              · rw [if_pos c28] at H
                have LMc28 := Aside0.mk c28
                clear c28
                obtain ⟨y336, hy336⟩ : ∃ y_ : List (S27), y_ = (x7_9 ++ t328) := ⟨_, rfl⟩
                replace H : ((spec_NodeOf.f kj9 t314 t315).bind fun bt339 => ((spec_fork.f kj9 bt339.1 bt339.2 a1).bind fun bt341 => (some (y336, bt341.1, bt341.2, wrap64 (t333 + (x7_9.length : Int)), wrap64 (t334 + (x7_9.length : Int)))))) = some (r1, r2, r3, r4, r5) := by first | (rw [hy336]; with_reducible exact H) | (have H2_ := (Option.bind_some _ _).symm.trans H; rw [hy336]; with_reducible exact H2_) | (have H2_ := (Option.bind_some _ _).symm.trans H; with_reducible exact H2_) | with_reducible exact H | (rw [hy336]; exact H) | exact H
                have Ny336 := Aside0.mk hy336
                clear hy336
                replace H := Option.bind_eq_some_iff.mp H
                obtain ⟨⟨t339, t340⟩, A290, H⟩ := H
                replace H : ((spec_fork.f kj9 t339 t340 a1).bind fun bt341 => (some (y336, bt341.1, bt341.2, wrap64 (t333 + (x7_9.length : Int)), wrap64 (t334 + (x7_9.length : Int))))) = some (r1, r2, r3, r4, r5) := H
                have A29 := Aside0.mk A290
                clear A290
                replace H := Option.bind_eq_some_iff.mp H
                obtain ⟨⟨t341, t342⟩, A300, H⟩ := H
                replace H : (some (y336, t341, t342, wrap64 (t333 + (x7_9.length : Int)), wrap64 (t334 + (x7_9.length : Int)))) = some (r1, r2, r3, r4, r5) := H
                have A30 := Aside0.mk A300
                clear A300
                simp only [Option.some.injEq, Prod.mk.injEq] at H
                obtain ⟨rfl, rfl, rfl, rfl, rfl⟩ := H
                have hnb31 := NB319_313.out
                have hnc31 := NB313_319.out
                have hcz32_0 : wc.cell? ⟨gb319, 0, none⟩ = some (.int .u64 t314) := (blk_cell BK319.out 0).trans rfl
                have hcz32_1 : wc.cell? ⟨gb319, 1, none⟩ = some (.int .u64 t315) := (blk_cell BK319.out 1).trans rfl
                have hfz32_0 := blk_frozen BK319.out 0
                have hfz32_1 := blk_frozen BK319.out 1
                obtain ⟨Ao33, co33, eo33, _⟩ := Kd.Q_slice HO_6.out
                subst eo33
                go_wp2_with (first | ((with_reducible refine gate_callee (f := 30) rfl ?_); refine goesL_ (some 32) rfl rfl Tryd.func30 (by kernel_rfl) rfl #[.agg #[.int .u64 t314, .int .u64 t315], .slice Ao33 x6_9.length co33] rfl (by (try simp only [List.map_toArray, List.map_cons, List.map_nil]); first | done | rfl | (simp only [List.length_drop, List.length_take]; rfl)) ?_; (with_reducible refine (spec_proofOf.calls kj9 t314 t315 _ _ x6_9 t328 t331 t332 t333 t334 _ ?side1 ?side2 A26.out).mono ?_); (case side1 => repeat (first | exact (Kd.Q_reads' HO_6.out).2.2 | (with_reducible refine Kd.C_alloc ?_ _) | (with_reducible refine Kd.C_drewN ?_ _) | (with_reducible refine Kd.C_drew ?_))); (case side2 => exact (Kd.Q_reads' HO_6.out).2.1); rintro e w34 ⟨v329, rfl, ho0, hb⟩; refine ⟨_, rfl, ?_⟩; have n0_ := Aside0.mk (Kd.Q_below (by (with_reducible repeat (first | apply Kd.Q_alloc | apply Kd.Q_drewN | apply Kd.Q_drew)); exact HO_6.out) hb); have n1_ := Aside0.mk (Kd.R_elder' (by (with_reducible repeat (first | apply Kd.R_alloc | apply Kd.R_drewN | apply Kd.R_drew)); exact HO_7.out) (Kd.R_base ho0) hb); have n2_ := Aside0.mk (Kd.R_lower (Kd.R_new' ho0 (Kd.R_lt (by (with_reducible repeat (first | apply Kd.R_alloc | apply Kd.R_drewN | apply Kd.R_drew)); exact HO_7.out))) (below_size (by repeat (first | (with_reducible first | exact HB.out | apply below_alloc | apply pw_below_drewN | apply below_drew1 | refine below_set ?_ GE313.out | refine below_set ?_ GE319.out) | exact HB.out)))); have n3_ := Aside0.mk (blk_below (g := gb313) (o := .cells #[.slice none 0 0, .int .u64 0, .int .u64 0, .int .i64 0, .int .i64 0] 36 (0, 0)) (by (with_reducible repeat (first | refine blk_drewN ?_ _ | refine blk_drew ?_ | refine blk_alloc ?_ _)); exact BK313.out) hb); have n4_ := Aside0.mk (blk_below (g := gb319) (o := .cells #[.int .u64 t314, .int .u64 t315] 29 (0, 0)) (by (with_reducible repeat (first | refine blk_drewN ?_ _ | refine blk_drew ?_ | refine blk_alloc ?_ _)); exact BK319.out) hb); have n5_ := Aside0.mk (below_step (by repeat (first | (with_reducible first | exact HB.out | apply below_alloc | apply pw_below_drewN | apply below_drew1 | refine below_set ?_ GE313.out | refine below_set ?_ GE319.out) | exact HB.out)) hb); clear HO_6; clear HO_7; clear BK313; clear BK319; clear HB; have HO_6 := n0_; have HO_7 := n1_; have HO330 := n2_; have BK313 := n3_; have BK319 := n4_; have HB := n5_; clear n0_ n1_ n2_ n3_ n4_ n5_; (try clear hb); (try clear hb2); (try clear hk); (try clear hi); (try clear ho0)) | ((with_reducible refine gate_dst (N := 8) rfl ?_); refine box_event ?hg (N := 8) ?hd (cs := #[.slice none 0 0, .int .u64 0, .int .u64 0, .int .i64 0, .int .i64 0]) (t := 36) ?hr ?_; (case hd => rfl); (case hg => rfl); (case hr => first | (go_simp; done) | (go_simp; rfl)); intro gb335 hg w35 hbox hb; have n0_ := Aside0.mk (Kd.Q_below (by (with_reducible repeat (first | apply Kd.Q_alloc | apply Kd.Q_drewN | apply Kd.Q_drew)); exact HO_6.out) hb); have n1_ := Aside0.mk (Kd.R_below (by (with_reducible repeat (first | apply Kd.R_alloc | apply Kd.R_drewN | apply Kd.R_drew)); exact HO_7.out) hb); have n2_ := Aside0.mk (Kd.R_below (by (with_reducible repeat (first | apply Kd.R_alloc | apply Kd.R_drewN | apply Kd.R_drew)); exact HO330.out) hb); have n3_ := Aside0.mk (blk_below (g := gb313) (o := .cells #[.slice none 0 0, .int .u64 0, .int .u64 0, .int .i64 0, .int .i64 0] 36 (0, 0)) (by (with_reducible repeat (first | refine blk_drewN ?_ _ | refine blk_drew ?_ | refine blk_alloc ?_ _)); exact BK313.out) hb); have n4_ := Aside0.mk (blk_below (g := gb319) (o := .cells #[.int .u64 t314, .int .u64 t315] 29 (0, 0)) (by (with_reducible repeat (first | refine blk_drewN ?_ _ | refine blk_drew ?_ | refine blk_alloc ?_ _)); exact BK319.out) hb); have n5_ := Aside0.mk (below_step (by repeat (first | (with_reducible first | exact HB.out | apply below_alloc | apply pw_below_drewN | apply below_drew1 | refine below_set ?_ GE313.out | refine below_set ?_ GE319.out) | exact HB.out)) hb); have n6_ := Aside0.mk (hbox); have n7_ := Aside0.mk ((by rw [hg]; exact (below_size (by repeat (first | (with_reducible first | exact HB.out | apply below_alloc | apply pw_below_drewN | apply below_drew1 | refine below_set ?_ GE313.out | refine below_set ?_ GE319.out) | exact HB.out))) : w.heap.size ≤ gb335)); have n8_ := Aside0.mk ((by rw [hg]; exact (below_size (by repeat (first | (with_reducible first | exact HB.out | apply below_alloc | apply pw_below_drewN | apply below_drew1 | refine below_set ?_ GE313.out | refine below_set ?_ GE319.out) | exact HB.out))) : w.heap.size ≤ gb335)); have n9_ := Aside0.mk ((by rw [hg]; exact Nat.ne_of_lt (blk_lt (g := gb313) (o := .cells #[.slice none 0 0, .int .u64 0, .int .u64 0, .int .i64 0, .int .i64 0] 36 (0, 0)) (by (with_reducible repeat (first | refine blk_drewN ?_ _ | refine blk_drew ?_ | refine blk_alloc ?_ _)); exact BK313.out)) : gb313 ≠ gb335)); have n10_ := Aside0.mk ((by rw [hg]; exact Nat.ne_of_gt (blk_lt (g := gb313) (o := .cells #[.slice none 0 0, .int .u64 0, .int .u64 0, .int .i64 0, .int .i64 0] 36 (0, 0)) (by (with_reducible repeat (first | refine blk_drewN ?_ _ | refine blk_drew ?_ | refine blk_alloc ?_ _)); exact BK313.out)) : gb335 ≠ gb313)); have n11_ := Aside0.mk ((by rw [hg]; exact Nat.ne_of_lt (blk_lt (g := gb319) (o := .cells #[.int .u64 t314, .int .u64 t315] 29 (0, 0)) (by (with_reducible repeat (first | refine blk_drewN ?_ _ | refine blk_drew ?_ | refine blk_alloc ?_ _)); exact BK319.out)) : gb319 ≠ gb335)); have n12_ := Aside0.mk ((by rw [hg]; exact Nat.ne_of_gt (blk_lt (g := gb319) (o := .cells #[.int .u64 t314, .int .u64 t315] 29 (0, 0)) (by (with_reducible repeat (first | refine blk_drewN ?_ _ | refine blk_drew ?_ | refine blk_alloc ?_ _)); exact BK319.out)) : gb335 ≠ gb319)); clear HO_6; clear HO_7; clear HO330; clear BK313; clear BK319; clear HB; have HO_6 := n0_; have HO_7 := n1_; have HO330 := n2_; have BK313 := n3_; have BK319 := n4_; have HB := n5_; have BK335 := n6_; have GW335 := n7_; have GE335 := n8_; have NB313_335 := n9_; have NB335_313 := n10_; have NB319_335 := n11_; have NB335_319 := n12_; clear n0_ n1_ n2_ n3_ n4_ n5_ n6_ n7_ n8_ n9_ n10_ n11_ n12_; clear hb hbox hg; obtain ⟨Ao36, co36, eo36⟩ := Kd.R_slice HO330.out; subst eo36; have hnb37 := NB335_313.out; have hnc37 := NB313_335.out; have hnb38 := NB335_319.out; have hnc38 := NB319_335.out; have hcz39_0 : w35.cell? ⟨gb335, 0, none⟩ = some (.slice none 0 0) := (blk_cell BK335.out 0).trans rfl; have hcz39_1 : w35.cell? ⟨gb335, 1, none⟩ = some (.int .u64 0) := (blk_cell BK335.out 1).trans rfl; have hcz39_2 : w35.cell? ⟨gb335, 2, none⟩ = some (.int .u64 0) := (blk_cell BK335.out 2).trans rfl; have hcz39_3 : w35.cell? ⟨gb335, 3, none⟩ = some (.int .i64 0) := (blk_cell BK335.out 3).trans rfl; have hcz39_4 : w35.cell? ⟨gb335, 4, none⟩ = some (.int .i64 0) := (blk_cell BK335.out 4).trans rfl; have hfz39_0 := blk_frozen BK335.out 0; have hfz39_1 := blk_frozen BK335.out 1; have hfz39_2 := blk_frozen BK335.out 2; have hfz39_3 := blk_frozen BK335.out 3; have hfz39_4 := blk_frozen BK335.out 4; obtain ⟨Ao40, co40, eo40⟩ := Kd.R_slice HO_7.out; subst eo40) | ((with_reducible refine gate_builtin (b := .append) (xs := #[.tmp 48, .tmp 50]) rfl ?_); at_builtin; refine Kd.R_append_rows k27 (w0 := w) w.heap.size rfl (.tmp 48) (.tmp 50) 23 27 (.agg #[(.int .u64 0), (.int .u64 0)]) 16 rfl Tryd.underlying23 info27 rfl (by decide) (by omega) (.slice Ao40 x7_9.length co40) x7_9 t328 _ _ _ (fun k_ => some k_ ≠ (.slice Ao36 t328.length co36 : Value).ownBlock) (fun _ => False) rfl rfl ?aO ?aR (fun _ _ h => h) (fun _ h => h.elim) ?aF ?aB ?aS ?aL ?_; (case aR => refine (Kd.R_reads' (e := 27) (base := w.heap.size) (ok := fun k_ => (True ∧ some k_ ≠ (.slice Ao40 x7_9.length co40 : Value).ownBlock)) (n := t328.length) (c := co36) ?_).2.2; exact (by (with_reducible repeat (first | apply Kd.R_alloc | apply Kd.R_drewN | apply Kd.R_drew)); exact (Kd.R_mono (Kd.R_far (p := ⟨gb335, 4, none⟩) (Kd.R_far (p := ⟨gb335, 3, none⟩) (Kd.R_far (p := ⟨gb335, 4, none⟩) (Kd.R_far (p := ⟨gb335, 3, none⟩) (Kd.R_far (p := ⟨gb335, 2, none⟩) (Kd.R_far (p := ⟨gb335, 1, none⟩) (Kd.R_far (p := ⟨gb335, 0, none⟩) (Kd.R_types HO330.out BK335.out (by decide)) (fun _ hk => hk.2) (.slice Ao36 t328.length co36)) (fun _ hk => hk.2) (.int .u64 t331)) (fun _ hk => hk.2) (.int .u64 t332)) (fun _ hk => hk.2) (.int .i64 t333)) (fun _ hk => hk.2) (.int .i64 t334)) (fun _ hk => hk.2) (.int .i64 (wrap64 (t333 + (x7_9.length : Int))))) (fun _ hk => hk.2) (.int .i64 (wrap64 (t334 + (x7_9.length : Int))))) (fun _ h_ => h_.1)))); (case aB => exact (by repeat (first | (with_reducible first | exact HB.out | apply below_alloc | apply pw_below_drewN | apply below_drew1 | refine below_set ?_ GE313.out | refine below_set ?_ GE319.out | refine below_set ?_ GE335.out) | exact HB.out))); (case aF => exact (fun k_ hk => Kd.fresh' (Kd.R_lt (by (with_reducible repeat (first | apply Kd.R_alloc | apply Kd.R_drewN | apply Kd.R_drew)); exact (Kd.R_mono (Kd.R_far (p := ⟨gb335, 4, none⟩) (Kd.R_far (p := ⟨gb335, 3, none⟩) (Kd.R_far (p := ⟨gb335, 4, none⟩) (Kd.R_far (p := ⟨gb335, 3, none⟩) (Kd.R_far (p := ⟨gb335, 2, none⟩) (Kd.R_far (p := ⟨gb335, 1, none⟩) (Kd.R_far (p := ⟨gb335, 0, none⟩) (Kd.R_types HO330.out BK335.out (by decide)) (fun _ hk => hk.2) (.slice Ao36 t328.length co36)) (fun _ hk => hk.2) (.int .u64 t331)) (fun _ hk => hk.2) (.int .u64 t332)) (fun _ hk => hk.2) (.int .i64 t333)) (fun _ hk => hk.2) (.int .i64 t334)) (fun _ hk => hk.2) (.int .i64 (wrap64 (t333 + (x7_9.length : Int))))) (fun _ hk => hk.2) (.int .i64 (wrap64 (t334 + (x7_9.length : Int))))) (fun _ h_ => h_.1)))) k_ hk)); (case aO => exact (by (with_reducible repeat (first | apply Kd.R_alloc | apply Kd.R_drewN | apply Kd.R_drew)); exact Kd.R_mono (Kd.R_far (p := ⟨gb335, 4, none⟩) (Kd.R_far (p := ⟨gb335, 3, none⟩) (Kd.R_far (p := ⟨gb335, 4, none⟩) (Kd.R_far (p := ⟨gb335, 3, none⟩) (Kd.R_far (p := ⟨gb335, 2, none⟩) (Kd.R_far (p := ⟨gb335, 1, none⟩) (Kd.R_far (p := ⟨gb335, 0, none⟩) (Kd.R_types HO_7.out BK335.out (by decide)) (fun _ hk => hk.2) (.slice Ao36 t328.length co36)) (fun _ hk => hk.2) (.int .u64 t331)) (fun _ hk => hk.2) (.int .u64 t332)) (fun _ hk => hk.2) (.int .i64 t333)) (fun _ hk => hk.2) (.int .i64 t334)) (fun _ hk => hk.2) (.int .i64 (wrap64 (t333 + (x7_9.length : Int))))) (fun _ hk => hk.2) (.int .i64 (wrap64 (t334 + (x7_9.length : Int))))) (fun _ hk => hk.1.2))); (case aS => exact (below_size (by repeat (first | (with_reducible first | exact HB.out | apply below_alloc | apply pw_below_drewN | apply below_drew1 | refine below_set ?_ GE313.out | refine below_set ?_ GE319.out | refine below_set ?_ GE335.out) | exact HB.out)))); (case aL => have := LMc28.out; omega); intro v337 w41 ho hb hg hat; rw [← Ny336.out] at ho; have n0_ := Aside0.mk (Kd.Q_over' (by (with_reducible repeat (first | apply Kd.Q_alloc | apply Kd.Q_drewN | apply Kd.Q_drew)); exact (Kd.Q_mono (Kd.Q_far (p := ⟨gb335, 4, none⟩) (Kd.Q_far (p := ⟨gb335, 3, none⟩) (Kd.Q_far (p := ⟨gb335, 4, none⟩) (Kd.Q_far (p := ⟨gb335, 3, none⟩) (Kd.Q_far (p := ⟨gb335, 2, none⟩) (Kd.Q_far (p := ⟨gb335, 1, none⟩) (Kd.Q_far (p := ⟨gb335, 0, none⟩) (Kd.Q_types HO_6.out BK335.out (by decide)) (fun _ hk => hk.2) (.slice Ao36 t328.length co36)) (fun _ hk => hk.2) (.int .u64 t331)) (fun _ hk => hk.2) (.int .u64 t332)) (fun _ hk => hk.2) (.int .i64 t333)) (fun _ hk => hk.2) (.int .i64 t334)) (fun _ hk => hk.2) (.int .i64 (wrap64 (t333 + (x7_9.length : Int))))) (fun _ hk => hk.2) (.int .i64 (wrap64 (t334 + (x7_9.length : Int))))) (fun _ h_ => h_.1))) (Kd.R_typed (by (with_reducible repeat (first | apply Kd.R_alloc | apply Kd.R_drewN | apply Kd.R_drew)); exact (Kd.R_mono (Kd.R_far (p := ⟨gb335, 4, none⟩) (Kd.R_far (p := ⟨gb335, 3, none⟩) (Kd.R_far (p := ⟨gb335, 4, none⟩) (Kd.R_far (p := ⟨gb335, 3, none⟩) (Kd.R_far (p := ⟨gb335, 2, none⟩) (Kd.R_far (p := ⟨gb335, 1, none⟩) (Kd.R_far (p := ⟨gb335, 0, none⟩) (Kd.R_types HO_7.out BK335.out (by decide)) (fun _ hk => hk.2) (.slice Ao36 t328.length co36)) (fun _ hk => hk.2) (.int .u64 t331)) (fun _ hk => hk.2) (.int .u64 t332)) (fun _ hk => hk.2) (.int .i64 t333)) (fun _ hk => hk.2) (.int .i64 t334)) (fun _ hk => hk.2) (.int .i64 (wrap64 (t333 + (x7_9.length : Int))))) (fun _ hk => hk.2) (.int .i64 (wrap64 (t334 + (x7_9.length : Int))))) (fun _ h_ => h_.1)))) (by decide) hg); have n1_ := Aside0.mk (blk_grown (g := gb313) (o := .cells #[.slice none 0 0, .int .u64 0, .int .u64 0, .int .i64 0, .int .i64 0] 36 (0, 0)) (by (with_reducible repeat (first | refine blk_drewN ?_ _ | refine blk_drew ?_ | refine blk_alloc ?_ _)); refine blk_far ?_ NB313_335.out _; (with_reducible repeat (first | refine blk_drewN ?_ _ | refine blk_drew ?_ | refine blk_alloc ?_ _)); refine blk_far ?_ NB313_335.out _; (with_reducible repeat (first | refine blk_drewN ?_ _ | refine blk_drew ?_ | refine blk_alloc ?_ _)); refine blk_far ?_ NB313_335.out _; (with_reducible repeat (first | refine blk_drewN ?_ _ | refine blk_drew ?_ | refine blk_alloc ?_ _)); refine blk_far ?_ NB313_335.out _; (with_reducible repeat (first | refine blk_drewN ?_ _ | refine blk_drew ?_ | refine blk_alloc ?_ _)); refine blk_far ?_ NB313_335.out _; (with_reducible repeat (first | refine blk_drewN ?_ _ | refine blk_drew ?_ | refine blk_alloc ?_ _)); refine blk_far ?_ NB313_335.out _; (with_reducible repeat (first | refine blk_drewN ?_ _ | refine blk_drew ?_ | refine blk_alloc ?_ _)); refine blk_far ?_ NB313_335.out _; (with_reducible repeat (first | refine blk_drewN ?_ _ | refine blk_drew ?_ | refine blk_alloc ?_ _)); exact BK313.out) hg (Kd.R_ne HO_7.out BK313.out (by decide))); have n2_ := Aside0.mk (blk_grown (g := gb319) (o := .cells #[.int .u64 t314, .int .u64 t315] 29 (0, 0)) (by (with_reducible repeat (first | refine blk_drewN ?_ _ | refine blk_drew ?_ | refine blk_alloc ?_ _)); refine blk_far ?_ NB319_335.out _; (with_reducible repeat (first | refine blk_drewN ?_ _ | refine blk_drew ?_ | refine blk_alloc ?_ _)); refine blk_far ?_ NB319_335.out _; (with_reducible repeat (first | refine blk_drewN ?_ _ | refine blk_drew ?_ | refine blk_alloc ?_ _)); refine blk_far ?_ NB319_335.out _; (with_reducible repeat (first | refine blk_drewN ?_ _ | refine blk_drew ?_ | refine blk_alloc ?_ _)); refine blk_far ?_ NB319_335.out _; (with_reducible repeat (first | refine blk_drewN ?_ _ | refine blk_drew ?_ | refine blk_alloc ?_ _)); refine blk_far ?_ NB319_335.out _; (with_reducible repeat (first | refine blk_drewN ?_ _ | refine blk_drew ?_ | refine blk_alloc ?_ _)); refine blk_far ?_ NB319_335.out _; (with_reducible repeat (first | refine blk_drewN ?_ _ | refine blk_drew ?_ | refine blk_alloc ?_ _)); refine blk_far ?_ NB319_335.out _; (with_reducible repeat (first | refine blk_drewN ?_ _ | refine blk_drew ?_ | refine blk_alloc ?_ _)); exact BK319.out) hg (Kd.R_ne HO_7.out BK319.out (by decide))); have n3_ := Aside0.mk (Kd.R_after (ok := (fun _ => True)) (by (with_reducible repeat (first | apply Kd.R_alloc | apply Kd.R_drewN | apply Kd.R_drew)); exact Kd.R_mono (Kd.R_far (p := ⟨gb335, 4, none⟩) (Kd.R_far (p := ⟨gb335, 3, none⟩) (Kd.R_far (p := ⟨gb335, 4, none⟩) (Kd.R_far (p := ⟨gb335, 3, none⟩) (Kd.R_far (p := ⟨gb335, 2, none⟩) (Kd.R_far (p := ⟨gb335, 1, none⟩) (Kd.R_far (p := ⟨gb335, 0, none⟩) (Kd.R_types HO330.out BK335.out (by decide)) (fun _ hk => hk.2) (.slice Ao36 t328.length co36)) (fun _ hk => hk.2) (.int .u64 t331)) (fun _ hk => hk.2) (.int .u64 t332)) (fun _ hk => hk.2) (.int .i64 t333)) (fun _ hk => hk.2) (.int .i64 t334)) (fun _ hk => hk.2) (.int .i64 (wrap64 (t333 + (x7_9.length : Int))))) (fun _ hk => hk.2) (.int .i64 (wrap64 (t334 + (x7_9.length : Int))))) (fun _ hk => ⟨trivial, hk.1.2⟩)) hg hat); have n4_ := Aside0.mk (blk_grown (g := gb335) (o := .cells #[.slice Ao36 t328.length co36, .int .u64 t331, .int .u64 t332, .int .i64 (wrap64 (t333 + (x7_9.length : Int))), .int .i64 (wrap64 (t334 + (x7_9.length : Int)))] 36 (0, 0)) (by (with_reducible repeat (first | refine blk_drewN ?_ _ | refine blk_drew ?_ | refine blk_alloc ?_ _)); refine blk_put (cs := #[.slice Ao36 t328.length co36, .int .u64 t331, .int .u64 t332, .int .i64 (wrap64 (t333 + (x7_9.length : Int))), .int .i64 t334]) ?_ 4 _ rfl; (with_reducible repeat (first | refine blk_drewN ?_ _ | refine blk_drew ?_ | refine blk_alloc ?_ _)); refine blk_put (cs := #[.slice Ao36 t328.length co36, .int .u64 t331, .int .u64 t332, .int .i64 t333, .int .i64 t334]) ?_ 3 _ rfl; (with_reducible repeat (first | refine blk_drewN ?_ _ | refine blk_drew ?_ | refine blk_alloc ?_ _)); refine blk_put (cs := #[.slice Ao36 t328.length co36, .int .u64 t331, .int .u64 t332, .int .i64 t333, .int .i64 0]) ?_ 4 _ rfl; (with_reducible repeat (first | refine blk_drewN ?_ _ | refine blk_drew ?_ | refine blk_alloc ?_ _)); refine blk_put (cs := #[.slice Ao36 t328.length co36, .int .u64 t331, .int .u64 t332, .int .i64 0, .int .i64 0]) ?_ 3 _ rfl; (with_reducible repeat (first | refine blk_drewN ?_ _ | refine blk_drew ?_ | refine blk_alloc ?_ _)); refine blk_put (cs := #[.slice Ao36 t328.length co36, .int .u64 t331, .int .u64 0, .int .i64 0, .int .i64 0]) ?_ 2 _ rfl; (with_reducible repeat (first | refine blk_drewN ?_ _ | refine blk_drew ?_ | refine blk_alloc ?_ _)); refine blk_put (cs := #[.slice Ao36 t328.length co36, .int .u64 0, .int .u64 0, .int .i64 0, .int .i64 0]) ?_ 1 _ rfl; (with_reducible repeat (first | refine blk_drewN ?_ _ | refine blk_drew ?_ | refine blk_alloc ?_ _)); refine blk_put (cs := #[.slice none 0 0, .int .u64 0, .int .u64 0, .int .i64 0, .int .i64 0]) ?_ 0 _ rfl; (with_reducible repeat (first | refine blk_drewN ?_ _ | refine blk_drew ?_ | refine blk_alloc ?_ _)); exact BK335.out) hg (Kd.R_ne HO_7.out BK335.out (by decide))); have n5_ := Aside0.mk (hb); have n6_ := Aside0.mk (ho); clear HO_6; clear BK313; clear BK319; clear HO330; clear BK335; clear HB; clear HO_7; have HO_6 := n0_; have BK313 := n1_; have BK319 := n2_; have HO330 := n3_; have BK335 := n4_; have HB := n5_; have HO338 := n6_; clear n0_ n1_ n2_ n3_ n4_ n5_ n6_; clear ho hb hg hat; obtain ⟨Ao42, co42, eo42⟩ := Kd.R_slice HO338.out; subst eo42; have hcz43_0 : w41.cell? ⟨gb335, 0, none⟩ = some (.slice Ao36 t328.length co36) := (blk_cell BK335.out 0).trans rfl; have hcz43_1 : w41.cell? ⟨gb335, 1, none⟩ = some (.int .u64 t331) := (blk_cell BK335.out 1).trans rfl; have hcz43_2 : w41.cell? ⟨gb335, 2, none⟩ = some (.int .u64 t332) := (blk_cell BK335.out 2).trans rfl; have hcz43_3 : w41.cell? ⟨gb335, 3, none⟩ = some (.int .i64 (wrap64 (t333 + (x7_9.length : Int)))) := (blk_cell BK335.out 3).trans rfl; have hcz43_4 : w41.cell? ⟨gb335, 4, none⟩ = some (.int .i64 (wrap64 (t334 + (x7_9.length : Int)))) := (blk_cell BK335.out 4).trans rfl; have hfz43_0 := blk_frozen BK335.out 0; have hfz43_1 := blk_frozen BK335.out 1; have hfz43_2 := blk_frozen BK335.out 2; have hfz43_3 := blk_frozen BK335.out 3; have hfz43_4 := blk_frozen BK335.out 4; have hcz44_0 : w41.cell? ⟨gb319, 0, none⟩ = some (.int .u64 t314) := (blk_cell BK319.out 0).trans rfl; have hcz44_1 : w41.cell? ⟨gb319, 1, none⟩ = some (.int .u64 t315) := (blk_cell BK319.out 1).trans rfl; have hfz44_0 := blk_frozen BK319.out 0; have hfz44_1 := blk_frozen BK319.out 1) | ((with_reducible refine gate_callee (f := 29) rfl ?_); refine goesL_ (some 54) rfl rfl Tryd.func29 (by kernel_rfl) rfl #[.agg #[.int .u64 t314, .int .u64 t315]] rfl (by (try simp only [List.map_toArray, List.map_cons, List.map_nil]); first | done | rfl | (simp only [List.length_drop, List.length_take]; rfl)) ?_; (with_reducible refine (spec_NodeOf.calls kj9 t314 t315 t339 t340 _ A29.out).mono ?_); rintro e w45 ⟨rfl, hb⟩; refine ⟨_, rfl, ?_⟩; have n0_ := Aside0.mk (Kd.Q_below (by (with_reducible repeat (first | apply Kd.Q_alloc | apply Kd.Q_drewN | apply Kd.Q_drew)); exact (Kd.Q_mono (Kd.Q_far (p := ⟨gb335, 0, none⟩) (Kd.Q_types HO_6.out BK335.out (by decide)) (fun _ hk => hk.2) (.slice Ao42 y336.length co42)) (fun _ h_ => h_.1))) hb); have n1_ := Aside0.mk (Kd.R_below (by (with_reducible repeat (first | apply Kd.R_alloc | apply Kd.R_drewN | apply Kd.R_drew)); exact (Kd.R_mono (Kd.R_far (p := ⟨gb335, 0, none⟩) (Kd.R_types HO330.out BK335.out (by decide)) (fun _ hk => hk.2) (.slice Ao42 y336.length co42)) (fun _ h_ => h_.1))) hb); have n2_ := Aside0.mk (Kd.R_below (by (with_reducible repeat (first | apply Kd.R_alloc | apply Kd.R_drewN | apply Kd.R_drew)); exact (Kd.R_mono (Kd.R_far (p := ⟨gb335, 0, none⟩) (Kd.R_types HO338.out BK335.out (by decide)) (fun _ hk => hk.2) (.slice Ao42 y336.length co42)) (fun _ h_ => h_.1))) hb); have n3_ := Aside0.mk (blk_below (g := gb313) (o := .cells #[.slice none 0 0, .int .u64 0, .int .u64 0, .int .i64 0, .int .i64 0] 36 (0, 0)) (by (with_reducible repeat (first | refine blk_drewN ?_ _ | refine blk_drew ?_ | refine blk_alloc ?_ _)); refine blk_far ?_ NB313_335.out _; (with_reducible repeat (first | refine blk_drewN ?_ _ | refine blk_drew ?_ | refine blk_alloc ?_ _)); exact BK313.out) hb); have n4_ := Aside0.mk (blk_below (g := gb319) (o := .cells #[.int .u64 t314, .int .u64 t315] 29 (0, 0)) (by (with_reducible repeat (first | refine blk_drewN ?_ _ | refine blk_drew ?_ | refine blk_alloc ?_ _)); refine blk_far ?_ NB319_335.out _; (with_reducible repeat (first | refine blk_drewN ?_ _ | refine blk_drew ?_ | refine blk_alloc ?_ _)); exact BK319.out) hb); have n5_ := Aside0.mk (blk_below (g := gb335) (o := .cells #[.slice Ao42 y336.length co42, .int .u64 t331, .int .u64 t332, .int .i64 (wrap64 (t333 + (x7_9.length : Int))), .int .i64 (wrap64 (t334 + (x7_9.length : Int)))] 36 (0, 0)) (by (with_reducible repeat (first | refine blk_drewN ?_ _ | refine blk_drew ?_ | refine blk_alloc ?_ _)); refine blk_put (cs := #[.slice Ao36 t328.length co36, .int .u64 t331, .int .u64 t332, .int .i64 (wrap64 (t333 + (x7_9.length : Int))), .int .i64 (wrap64 (t334 + (x7_9.length : Int)))]) ?_ 0 _ rfl; (with_reducible repeat (first | refine blk_drewN ?_ _ | refine blk_drew ?_ | refine blk_alloc ?_ _)); exact BK335.out) hb); have n6_ := Aside0.mk (below_step (by repeat (first | (with_reducible first | exact HB.out | apply below_alloc | apply pw_below_drewN | apply below_drew1 | refine below_set ?_ GE313.out | refine below_set ?_ GE319.out | refine below_set ?_ GE335.out) | exact HB.out)) hb); clear HO_6; clear HO330; clear HO338; clear BK313; clear BK319; clear BK335; clear HB; have HO_6 := n0_; have HO330 := n1_; have HO338 := n2_; have BK313 := n3_; have BK319 := n4_; have BK335 := n5_; have HB := n6_; clear n0_ n1_ n2_ n3_ n4_ n5_ n6_; (try clear hb); (try clear hb2); (try clear hk); (try clear hi)) | ((with_reducible refine gate_callee (f := 31) rfl ?_); refine goesL_ (some 56) rfl rfl Tryd.func31 (by kernel_rfl) rfl #[.agg #[.int .u64 t339, .int .u64 t340], .int .u64 a1] rfl (by (try simp only [List.map_toArray, List.map_cons, List.map_nil]); first | done | rfl | (simp only [List.length_drop, List.length_take]; rfl)) ?_; (with_reducible refine (spec_fork.calls kj9 t339 t340 a1 t341 t342 _ A30.out).mono ?_); rintro e w46 ⟨rfl, hb⟩; refine ⟨_, rfl, ?_⟩; have n0_ := Aside0.mk (Kd.Q_below (by (with_reducible repeat (first | apply Kd.Q_alloc | apply Kd.Q_drewN | apply Kd.Q_drew)); exact HO_6.out) hb); have n1_ := Aside0.mk (Kd.R_below (by (with_reducible repeat (first | apply Kd.R_alloc | apply Kd.R_drewN | apply Kd.R_drew)); exact HO330.out) hb); have n2_ := Aside0.mk (Kd.R_below (by (with_reducible repeat (first | apply Kd.R_alloc | apply Kd.R_drewN | apply Kd.R_drew)); exact HO338.out) hb); have n3_ := Aside0.mk (blk_below (g := gb313) (o := .cells #[.slice none 0 0, .int .u64 0, .int .u64 0, .int .i64 0, .int .i64 0] 36 (0, 0)) (by (with_reducible repeat (first | refine blk_drewN ?_ _ | refine blk_drew ?_ | refine blk_alloc ?_ _)); exact BK313.out) hb); have n4_ := Aside0.mk (blk_below (g := gb319) (o := .cells #[.int .u64 t314, .int .u64 t315] 29 (0, 0)) (by (with_reducible repeat (first | refine blk_drewN ?_ _ | refine blk_drew ?_ | refine blk_alloc ?_ _)); exact BK319.out) hb); have n5_ := Aside0.mk (blk_below (g := gb335) (o := .cells #[.slice Ao42 y336.length co42, .int .u64 t331, .int .u64 t332, .int .i64 (wrap64 (t333 + (x7_9.length : Int))), .int .i64 (wrap64 (t334 + (x7_9.length : Int)))] 36 (0, 0)) (by (with_reducible repeat (first | refine blk_drewN ?_ _ | refine blk_drew ?_ | refine blk_alloc ?_ _)); exact BK335.out) hb); have n6_ := Aside0.mk (below_step (by repeat (first | (with_reducible first | exact HB.out | apply below_alloc | apply pw_below_drewN | apply below_drew1 | refine below_set ?_ GE313.out | refine below_set ?_ GE319.out | refine below_set ?_ GE335.out) | exact HB.out)) hb); clear HO_6; clear HO330; clear HO338; clear BK313; clear BK319; clear BK335; clear HB; have HO_6 := n0_; have HO330 := n1_; have HO338 := n2_; have BK313 := n3_; have BK319 := n4_; have BK335 := n5_; have HB := n6_; clear n0_ n1_ n2_ n3_ n4_ n5_ n6_; (try clear hb); (try clear hb2); (try clear hk); (try clear hi); have hcz47_0 : w46.cell? ⟨gb335, 0, none⟩ = some (.slice Ao42 y336.length co42) := (blk_cell BK335.out 0).trans rfl; have hcz47_1 : w46.cell? ⟨gb335, 1, none⟩ = some (.int .u64 t331) := (blk_cell BK335.out 1).trans rfl; have hcz47_2 : w46.cell? ⟨gb335, 2, none⟩ = some (.int .u64 t332) := (blk_cell BK335.out 2).trans rfl; have hcz47_3 : w46.cell? ⟨gb335, 3, none⟩ = some (.int .i64 (wrap64 (t333 + (x7_9.length : Int)))) := (blk_cell BK335.out 3).trans rfl; have hcz47_4 : w46.cell? ⟨gb335, 4, none⟩ = some (.int .i64 (wrap64 (t334 + (x7_9.length : Int)))) := (blk_cell BK335.out 4).trans rfl; have hfz47_0 := blk_frozen BK335.out 0; have hfz47_1 := blk_frozen BK335.out 1; have hfz47_2 := blk_frozen BK335.out 2; have hfz47_3 := blk_frozen BK335.out 3; have hfz47_4 := blk_frozen BK335.out 4; have hcz48_0 : w46.cell? ⟨gb313, 0, none⟩ = some (.slice none 0 0) := (blk_cell BK313.out 0).trans rfl; have hcz48_1 : w46.cell? ⟨gb313, 1, none⟩ = some (.int .u64 0) := (blk_cell BK313.out 1).trans rfl; have hcz48_2 : w46.cell? ⟨gb313, 2, none⟩ = some (.int .u64 0) := (blk_cell BK313.out 2).trans rfl; have hcz48_3 : w46.cell? ⟨gb313, 3, none⟩ = some (.int .i64 0) := (blk_cell BK313.out 3).trans rfl; have hcz48_4 : w46.cell? ⟨gb313, 4, none⟩ = some (.int .i64 0) := (blk_cell BK313.out 4).trans rfl; have hfz48_0 := blk_frozen BK313.out 0; have hfz48_1 := blk_frozen BK313.out 1; have hfz48_2 := blk_frozen BK313.out 2; have hfz48_3 := blk_frozen BK313.out 3; have hfz48_4 := blk_frozen BK313.out 4))
                refine bodyPost_ret (results_cell_row rfl _ _ gb313 36 #[.slice Ao42 y336.length co42, .int .u64 t341, .int .u64 t342, .int .i64 (wrap64 (t333 + (x7_9.length : Int))), .int .i64 (wrap64 (t334 + (x7_9.length : Int)))] (0, 0) _ rfl (by (with_reducible repeat (first | refine blk_drewN ?_ _ | refine blk_drew ?_ | refine blk_alloc ?_ _)); refine blk_put (cs := #[.slice Ao42 y336.length co42, .int .u64 t341, .int .u64 t342, .int .i64 (wrap64 (t333 + (x7_9.length : Int))), .int .i64 0]) ?_ 4 _ rfl; (with_reducible repeat (first | refine blk_drewN ?_ _ | refine blk_drew ?_ | refine blk_alloc ?_ _)); refine blk_put (cs := #[.slice Ao42 y336.length co42, .int .u64 t341, .int .u64 t342, .int .i64 0, .int .i64 0]) ?_ 3 _ rfl; (with_reducible repeat (first | refine blk_drewN ?_ _ | refine blk_drew ?_ | refine blk_alloc ?_ _)); refine blk_put (cs := #[.slice Ao42 y336.length co42, .int .u64 t341, .int .u64 0, .int .i64 0, .int .i64 0]) ?_ 2 _ rfl; (with_reducible repeat (first | refine blk_drewN ?_ _ | refine blk_drew ?_ | refine blk_alloc ?_ _)); refine blk_put (cs := #[.slice Ao42 y336.length co42, .int .u64 0, .int .u64 0, .int .i64 0, .int .i64 0]) ?_ 1 _ rfl; (with_reducible repeat (first | refine blk_drewN ?_ _ | refine blk_drew ?_ | refine blk_alloc ?_ _)); refine blk_put (cs := #[.slice none 0 0, .int .u64 0, .int .u64 0, .int .i64 0, .int .i64 0]) ?_ 0 _ rfl; (with_reducible repeat (first | refine blk_drewN ?_ _ | refine blk_drew ?_ | refine blk_alloc ?_ _)); refine blk_far ?_ NB313_335.out _; (with_reducible repeat (first | refine blk_drewN ?_ _ | refine blk_drew ?_ | refine blk_alloc ?_ _)); refine blk_far ?_ NB313_335.out _; (with_reducible repeat (first | refine blk_drewN ?_ _ | refine blk_drew ?_ | refine blk_alloc ?_ _)); exact BK313.out) Tryd.underlying36 rfl (by kernel_rfl)) rfl ?_
                exact ⟨_, by first | rfl | (simp [errW_none, errW_some] <;> rfl) | (simp [*, errW_none, errW_some] <;> rfl), by (with_reducible repeat (first | apply Kd.R_alloc | apply Kd.R_drewN | apply Kd.R_drew)); exact Kd.R_mono (Kd.R_far (p := ⟨gb313, 4, none⟩) (Kd.R_far (p := ⟨gb313, 3, none⟩) (Kd.R_far (p := ⟨gb313, 2, none⟩) (Kd.R_far (p := ⟨gb313, 1, none⟩) (Kd.R_far (p := ⟨gb313, 0, none⟩) (Kd.R_far (p := ⟨gb335, 2, none⟩) (Kd.R_far (p := ⟨gb335, 1, none⟩) (Kd.R_types (Kd.R_types HO338.out BK335.out (by decide)) BK313.out (by decide)) (fun _ hk => hk.1.2) (.int .u64 t341)) (fun _ hk => hk.1.2) (.int .u64 t342)) (fun _ hk => hk.2) (.slice Ao42 y336.length co42)) (fun _ hk => hk.2) (.int .u64 t341)) (fun _ hk => hk.2) (.int .u64 t342)) (fun _ hk => hk.2) (.int .i64 (wrap64 (t333 + (x7_9.length : Int))))) (fun _ hk => hk.2) (.int .i64 (wrap64 (t334 + (x7_9.length : Int))))) (fun _ hk => trivial), by repeat (first | (with_reducible first | exact HB.out | apply below_alloc | apply pw_below_drewN | apply below_drew1 | refine below_set ?_ GE313.out | refine below_set ?_ GE319.out | refine below_set ?_ GE335.out) | exact HB.out)⟩
              · rw [if_neg c28] at H
                exact absurd H (by simp)
            · rw [if_neg c27] at H
              have c27b0 : decide (0 < t334) = false := decide_eq_false c27
              clear c27
              by_cases c49 : x7_9.length + t328.length < 8796093022208
              · rw [if_pos c49] at H
                have LMc49 := Aside0.mk c49
                clear c49
                obtain ⟨y343, hy343⟩ : ∃ y_ : List (S27), y_ = (x7_9 ++ t328) := ⟨_, rfl⟩
                replace H : ((spec_NodeOf.f kj9 t314 t315).bind fun bt346 => ((spec_fork.f kj9 bt346.1 bt346.2 a1).bind fun bt348 => (some (y343, bt348.1, bt348.2, t333, t334)))) = some (r1, r2, r3, r4, r5) := by first | (rw [hy343]; with_reducible exact H) | (have H2_ := (Option.bind_some _ _).symm.trans H; rw [hy343]; with_reducible exact H2_) | (have H2_ := (Option.bind_some _ _).symm.trans H; with_reducible exact H2_) | with_reducible exact H | (rw [hy343]; exact H) | exact H
                have Ny343 := Aside0.mk hy343
                clear hy343
                replace H := Option.bind_eq_some_iff.mp H
                obtain ⟨⟨t346, t347⟩, A500, H⟩ := H
                replace H : ((spec_fork.f kj9 t346 t347 a1).bind fun bt348 => (some (y343, bt348.1, bt348.2, t333, t334))) = some (r1, r2, r3, r4, r5) := H
                have A50 := Aside0.mk A500
                clear A500
                replace H := Option.bind_eq_some_iff.mp H
                obtain ⟨⟨t348, t349⟩, A510, H⟩ := H
                replace H : (some (y343, t348, t349, t333, t334)) = some (r1, r2, r3, r4, r5) := H
                have A51 := Aside0.mk A510
                clear A510
                simp only [Option.some.injEq, Prod.mk.injEq] at H
                obtain ⟨rfl, rfl, rfl, rfl, rfl⟩ := H
                have hnb52 := NB319_313.out
                have hnc52 := NB313_319.out
                have hcz53_0 : wc.cell? ⟨gb319, 0, none⟩ = some (.int .u64 t314) := (blk_cell BK319.out 0).trans rfl
                have hcz53_1 : wc.cell? ⟨gb319, 1, none⟩ = some (.int .u64 t315) := (blk_cell BK319.out 1).trans rfl
                have hfz53_0 := blk_frozen BK319.out 0
                have hfz53_1 := blk_frozen BK319.out 1
                obtain ⟨Ao54, co54, eo54, _⟩ := Kd.Q_slice HO_6.out
                subst eo54
                go_wp2_with (first | ((with_reducible refine gate_callee (f := 30) rfl ?_); refine goesL_ (some 32) rfl rfl Tryd.func30 (by kernel_rfl) rfl #[.agg #[.int .u64 t314, .int .u64 t315], .slice Ao54 x6_9.length co54] rfl (by (try simp only [List.map_toArray, List.map_cons, List.map_nil]); first | done | rfl | (simp only [List.length_drop, List.length_take]; rfl)) ?_; (with_reducible refine (spec_proofOf.calls kj9 t314 t315 _ _ x6_9 t328 t331 t332 t333 t334 _ ?side1 ?side2 A26.out).mono ?_); (case side1 => repeat (first | exact (Kd.Q_reads' HO_6.out).2.2 | (with_reducible refine Kd.C_alloc ?_ _) | (with_reducible refine Kd.C_drewN ?_ _) | (with_reducible refine Kd.C_drew ?_))); (case side2 => exact (Kd.Q_reads' HO_6.out).2.1); rintro e w55 ⟨v329, rfl, ho0, hb⟩; refine ⟨_, rfl, ?_⟩; have n0_ := Aside0.mk (Kd.Q_below (by (with_reducible repeat (first | apply Kd.Q_alloc | apply Kd.Q_drewN | apply Kd.Q_drew)); exact HO_6.out) hb); have n1_ := Aside0.mk (Kd.R_elder' (by (with_reducible repeat (first | apply Kd.R_alloc | apply Kd.R_drewN | apply Kd.R_drew)); exact HO_7.out) (Kd.R_base ho0) hb); have n2_ := Aside0.mk (Kd.R_lower (Kd.R_new' ho0 (Kd.R_lt (by (with_reducible repeat (first | apply Kd.R_alloc | apply Kd.R_drewN | apply Kd.R_drew)); exact HO_7.out))) (below_size (by repeat (first | (with_reducible first | exact HB.out | apply below_alloc | apply pw_below_drewN | apply below_drew1 | refine below_set ?_ GE313.out | refine below_set ?_ GE319.out) | exact HB.out)))); have n3_ := Aside0.mk (blk_below (g := gb313) (o := .cells #[.slice none 0 0, .int .u64 0, .int .u64 0, .int .i64 0, .int .i64 0] 36 (0, 0)) (by (with_reducible repeat (first | refine blk_drewN ?_ _ | refine blk_drew ?_ | refine blk_alloc ?_ _)); exact BK313.out) hb); have n4_ := Aside0.mk (blk_below (g := gb319) (o := .cells #[.int .u64 t314, .int .u64 t315] 29 (0, 0)) (by (with_reducible repeat (first | refine blk_drewN ?_ _ | refine blk_drew ?_ | refine blk_alloc ?_ _)); exact BK319.out) hb); have n5_ := Aside0.mk (below_step (by repeat (first | (with_reducible first | exact HB.out | apply below_alloc | apply pw_below_drewN | apply below_drew1 | refine below_set ?_ GE313.out | refine below_set ?_ GE319.out) | exact HB.out)) hb); clear HO_6; clear HO_7; clear BK313; clear BK319; clear HB; have HO_6 := n0_; have HO_7 := n1_; have HO330 := n2_; have BK313 := n3_; have BK319 := n4_; have HB := n5_; clear n0_ n1_ n2_ n3_ n4_ n5_; (try clear hb); (try clear hb2); (try clear hk); (try clear hi); (try clear ho0)) | ((with_reducible refine gate_dst (N := 8) rfl ?_); refine box_event ?hg (N := 8) ?hd (cs := #[.slice none 0 0, .int .u64 0, .int .u64 0, .int .i64 0, .int .i64 0]) (t := 36) ?hr ?_; (case hd => rfl); (case hg => rfl); (case hr => first | (go_simp; done) | (go_simp; rfl)); intro gb335 hg w56 hbox hb; have n0_ := Aside0.mk (Kd.Q_below (by (with_reducible repeat (first | apply Kd.Q_alloc | apply Kd.Q_drewN | apply Kd.Q_drew)); exact HO_6.out) hb); have n1_ := Aside0.mk (Kd.R_below (by (with_reducible repeat (first | apply Kd.R_alloc | apply Kd.R_drewN | apply Kd.R_drew)); exact HO_7.out) hb); have n2_ := Aside0.mk (Kd.R_below (by (with_reducible repeat (first | apply Kd.R_alloc | apply Kd.R_drewN | apply Kd.R_drew)); exact HO330.out) hb); have n3_ := Aside0.mk (blk_below (g := gb313) (o := .cells #[.slice none 0 0, .int .u64 0, .int .u64 0, .int .i64 0, .int .i64 0] 36 (0, 0)) (by (with_reducible repeat (first | refine blk_drewN ?_ _ | refine blk_drew ?_ | refine blk_alloc ?_ _)); exact BK313.out) hb); have n4_ := Aside0.mk (blk_below (g := gb319) (o := .cells #[.int .u64 t314, .int .u64 t315] 29 (0, 0)) (by (with_reducible repeat (first | refine blk_drewN ?_ _ | refine blk_drew ?_ | refine blk_alloc ?_ _)); exact BK319.out) hb); have n5_ := Aside0.mk (below_step (by repeat (first | (with_reducible first | exact HB.out | apply below_alloc | apply pw_below_drewN | apply below_drew1 | refine below_set ?_ GE313.out | refine below_set ?_ GE319.out) | exact HB.out)) hb); have n6_ := Aside0.mk (hbox); have n7_ := Aside0.mk ((by rw [hg]; exact (below_size (by repeat (first | (with_reducible first | exact HB.out | apply below_alloc | apply pw_below_drewN | apply below_drew1 | refine below_set ?_ GE313.out | refine below_set ?_ GE319.out) | exact HB.out))) : w.heap.size ≤ gb335)); have n8_ := Aside0.mk ((by rw [hg]; exact (below_size (by repeat (first | (with_reducible first | exact HB.out | apply below_alloc | apply pw_below_drewN | apply below_drew1 | refine below_set ?_ GE313.out | refine below_set ?_ GE319.out) | exact HB.out))) : w.heap.size ≤ gb335)); have n9_ := Aside0.mk ((by rw [hg]; exact Nat.ne_of_lt (blk_lt (g := gb313) (o := .cells #[.slice none 0 0, .int .u64 0, .int .u64 0, .int .i64 0, .int .i64 0] 36 (0, 0)) (by (with_reducible repeat (first | refine blk_drewN ?_ _ | refine blk_drew ?_ | refine blk_alloc ?_ _)); exact BK313.out)) : gb313 ≠ gb335)); have n10_ := Aside0.mk ((by rw [hg]; exact Nat.ne_of_gt (blk_lt (g := gb313) (o := .cells #[.slice none 0 0, .int .u64 0, .int .u64 0, .int .i64 0, .int .i64 0] 36 (0, 0)) (by (with_reducible repeat (first | refine blk_drewN ?_ _ | refine blk_drew ?_ | refine blk_alloc ?_ _)); exact BK313.out)) : gb335 ≠ gb313)); have n11_ := Aside0.mk ((by rw [hg]; exact Nat.ne_of_lt (blk_lt (g := gb319) (o := .cells #[.int .u64 t314, .int .u64 t315] 29 (0, 0)) (by (with_reducible repeat (first | refine blk_drewN ?_ _ | refine blk_drew ?_ | refine blk_alloc ?_ _)); exact BK319.out)) : gb319 ≠ gb335)); have n12_ := Aside0.mk ((by rw [hg]; exact Nat.ne_of_gt (blk_lt (g := gb319) (o := .cells #[.int .u64 t314, .int .u64 t315] 29 (0, 0)) (by (with_reducible repeat (first | refine blk_drewN ?_ _ | refine blk_drew ?_ | refine blk_alloc ?_ _)); exact BK319.out)) : gb335 ≠ gb319)); clear HO_6; clear HO_7; clear HO330; clear BK313; clear BK319; clear HB; have HO_6 := n0_; have HO_7 := n1_; have HO330 := n2_; have BK313 := n3_; have BK319 := n4_; have HB := n5_; have BK335 := n6_; have GW335 := n7_; have GE335 := n8_; have NB313_335 := n9_; have NB335_313 := n10_; have NB319_335 := n11_; have NB335_319 := n12_; clear n0_ n1_ n2_ n3_ n4_ n5_ n6_ n7_ n8_ n9_ n10_ n11_ n12_; clear hb hbox hg; obtain ⟨Ao57, co57, eo57⟩ := Kd.R_slice HO330.out; subst eo57; have hnb58 := NB335_313.out; have hnc58 := NB313_335.out; have hnb59 := NB335_319.out; have hnc59 := NB319_335.out; have hcz60_0 : w56.cell? ⟨gb335, 0, none⟩ = some (.slice none 0 0) := (blk_cell BK335.out 0).trans rfl; have hcz60_1 : w56.cell? ⟨gb335, 1, none⟩ = some (.int .u64 0) := (blk_cell BK335.out 1).trans rfl; have hcz60_2 : w56.cell? ⟨gb335, 2, none⟩ = some (.int .u64 0) := (blk_cell BK335.out 2).trans rfl; have hcz60_3 : w56.cell? ⟨gb335, 3, none⟩ = some (.int .i64 0) := (blk_cell BK335.out 3).trans rfl; have hcz60_4 : w56.cell? ⟨gb335, 4, none⟩ = some (.int .i64 0) := (blk_cell BK335.out 4).trans rfl; have hfz60_0 := blk_frozen BK335.out 0; have hfz60_1 := blk_frozen BK335.out 1; have hfz60_2 := blk_frozen BK335.out 2; have hfz60_3 := blk_frozen BK335.out 3; have hfz60_4 := blk_frozen BK335.out 4) | ((with_reducible refine gate_builtin (b := .append) (xs := #[.tmp 48, .tmp 50]) rfl ?_); at_builtin; refine Kd.R_append_rows k27 (w0 := w) w.heap.size rfl (.tmp 48) (.tmp 50) 23 27 (.agg #[(.int .u64 0), (.int .u64 0)]) 16 rfl Tryd.underlying23 info27 rfl (by decide) (by omega) u7 x7_9 t328 _ _ _ (fun k_ => some k_ ≠ (.slice Ao57 t328.length co57 : Value).ownBlock) (fun _ => False) rfl rfl ?aO ?aR (fun _ _ h => h) (fun _ h => h.elim) ?aF ?aB ?aS ?aL ?_; (case aR => refine (Kd.R_reads' (e := 27) (base := w.heap.size) (ok := fun k_ => (True ∧ some k_ ≠ (u7 : Value).ownBlock)) (n := t328.length) (c := co57) ?_).2.2; exact (by (with_reducible repeat (first | apply Kd.R_alloc | apply Kd.R_drewN | apply Kd.R_drew)); exact (Kd.R_mono (Kd.R_far (p := ⟨gb335, 4, none⟩) (Kd.R_far (p := ⟨gb335, 3, none⟩) (Kd.R_far (p := ⟨gb335, 2, none⟩) (Kd.R_far (p := ⟨gb335, 1, none⟩) (Kd.R_far (p := ⟨gb335, 0, none⟩) (Kd.R_types HO330.out BK335.out (by decide)) (fun _ hk => hk.2) (.slice Ao57 t328.length co57)) (fun _ hk => hk.2) (.int .u64 t331)) (fun _ hk => hk.2) (.int .u64 t332)) (fun _ hk => hk.2) (.int .i64 t333)) (fun _ hk => hk.2) (.int .i64 t334)) (fun _ h_ => h_.1)))); (case aB => exact (by repeat (first | (with_reducible first | exact HB.out | apply below_alloc | apply pw_below_drewN | apply below_drew1 | refine below_set ?_ GE313.out | refine below_set ?_ GE319.out | refine below_set ?_ GE335.out) | exact HB.out))); (case aF => exact (fun k_ hk => Kd.fresh' (Kd.R_lt (by (with_reducible repeat (first | apply Kd.R_alloc | apply Kd.R_drewN | apply Kd.R_drew)); exact (Kd.R_mono (Kd.R_far (p := ⟨gb335, 4, none⟩) (Kd.R_far (p := ⟨gb335, 3, none⟩) (Kd.R_far (p := ⟨gb335, 2, none⟩) (Kd.R_far (p := ⟨gb335, 1, none⟩) (Kd.R_far (p := ⟨gb335, 0, none⟩) (Kd.R_types HO330.out BK335.out (by decide)) (fun _ hk => hk.2) (.slice Ao57 t328.length co57)) (fun _ hk => hk.2) (.int .u64 t331)) (fun _ hk => hk.2) (.int .u64 t332)) (fun _ hk => hk.2) (.int .i64 t333)) (fun _ hk => hk.2) (.int .i64 t334)) (fun _ h_ => h_.1)))) k_ hk)); (case aO => exact (by (with_reducible repeat (first | apply Kd.R_alloc | apply Kd.R_drewN | apply Kd.R_drew)); exact Kd.R_mono (Kd.R_far (p := ⟨gb335, 4, none⟩) (Kd.R_far (p := ⟨gb335, 3, none⟩) (Kd.R_far (p := ⟨gb335, 2, none⟩) (Kd.R_far (p := ⟨gb335, 1, none⟩) (Kd.R_far (p := ⟨gb335, 0, none⟩) (Kd.R_types HO_7.out BK335.out (by decide)) (fun _ hk => hk.2) (.slice Ao57 t328.length co57)) (fun _ hk => hk.2) (.int .u64 t331)) (fun _ hk => hk.2) (.int .u64 t332)) (fun _ hk => hk.2) (.int .i64 t333)) (fun _ hk => hk.2) (.int .i64 t334)) (fun _ hk => hk.1.2))); (case aS => exact (below_size (by repeat (first | (with_reducible first | exact HB.out | apply below_alloc | apply pw_below_drewN | apply below_drew1 | refine below_set ?_ GE313.out | refine below_set ?_ GE319.out | refine below_set ?_ GE335.out) | exact HB.out)))); (case aL => have := LMc49.out; omega); intro v344 w61 ho hb hg hat; rw [← Ny343.out] at ho; have n0_ := Aside0.mk (Kd.Q_over' (by (with_reducible repeat (first | apply Kd.Q_alloc | apply Kd.Q_drewN | apply Kd.Q_drew)); exact (Kd.Q_mono (Kd.Q_far (p := ⟨gb335, 4, none⟩) (Kd.Q_far (p := ⟨gb335, 3, none⟩) (Kd.Q_far (p := ⟨gb335, 2, none⟩) (Kd.Q_far (p := ⟨gb335, 1, none⟩) (Kd.Q_far (p := ⟨gb335, 0, none⟩) (Kd.Q_types HO_6.out BK335.out (by decide)) (fun _ hk => hk.2) (.slice Ao57 t328.length co57)) (fun _ hk => hk.2) (.int .u64 t331)) (fun _ hk => hk.2) (.int .u64 t332)) (fun _ hk => hk.2) (.int .i64 t333)) (fun _ hk => hk.2) (.int .i64 t334)) (fun _ h_ => h_.1))) (Kd.R_typed (by (with_reducible repeat (first | apply Kd.R_alloc | apply Kd.R_drewN | apply Kd.R_drew)); exact (Kd.R_mono (Kd.R_far (p := ⟨gb335, 4, none⟩) (Kd.R_far (p := ⟨gb335, 3, none⟩) (Kd.R_far (p := ⟨gb335, 2, none⟩) (Kd.R_far (p := ⟨gb335, 1, none⟩) (Kd.R_far (p := ⟨gb335, 0, none⟩) (Kd.R_types HO_7.out BK335.out (by decide)) (fun _ hk => hk.2) (.slice Ao57 t328.length co57)) (fun _ hk => hk.2) (.int .u64 t331)) (fun _ hk => hk.2) (.int .u64 t332)) (fun _ hk => hk.2) (.int .i64 t333)) (fun _ hk => hk.2) (.int .i64 t334)) (fun _ h_ => h_.1)))) (by decide) hg); have n1_ := Aside0.mk (blk_grown (g := gb313) (o := .cells #[.slice none 0 0, .int .u64 0, .int .u64 0, .int .i64 0, .int .i64 0] 36 (0, 0)) (by (with_reducible repeat (first | refine blk_drewN ?_ _ | refine blk_drew ?_ | refine blk_alloc ?_ _)); refine blk_far ?_ NB313_335.out _; (with_reducible repeat (first | refine blk_drewN ?_ _ | refine blk_drew ?_ | refine blk_alloc ?_ _)); refine blk_far ?_ NB313_335.out _; (with_reducible repeat (first | refine blk_drewN ?_ _ | refine blk_drew ?_ | refine blk_alloc ?_ _)); refine blk_far ?_ NB313_335.out _; (with_reducible repeat (first | refine blk_drewN ?_ _ | refine blk_drew ?_ | refine blk_alloc ?_ _)); refine blk_far ?_ NB313_335.out _; (with_reducible repeat (first | refine blk_drewN ?_ _ | refine blk_drew ?_ | refine blk_alloc ?_ _)); refine blk_far ?_ NB313_335.out _; (with_reducible repeat (first | refine blk_drewN ?_ _ | refine blk_drew ?_ | refine blk_alloc ?_ _)); exact BK313.out) hg (Kd.R_ne HO_7.out BK313.out (by decide))); have n2_ := Aside0.mk (blk_grown (g := gb319) (o := .cells #[.int .u64 t314, .int .u64 t315] 29 (0, 0)) (by (with_reducible repeat (first | refine blk_drewN ?_ _ | refine blk_drew ?_ | refine blk_alloc ?_ _)); refine blk_far ?_ NB319_335.out _; (with_reducible repeat (first | refine blk_drewN ?_ _ | refine blk_drew ?_ | refine blk_alloc ?_ _)); refine blk_far ?_ NB319_335.out _; (with_reducible repeat (first | refine blk_drewN ?_ _ | refine blk_drew ?_ | refine blk_alloc ?_ _)); refine blk_far ?_ NB319_335.out _; (with_reducible repeat (first | refine blk_drewN ?_ _ | refine blk_drew ?_ | refine blk_alloc ?_ _)); refine blk_far ?_ NB319_335.out _; (with_reducible repeat (first | refine blk_drewN ?_ _ | refine blk_drew ?_ | refine blk_alloc ?_ _)); refine blk_far ?_ NB319_335.out _; (with_reducible repeat (first | refine blk_drewN ?_ _ | refine blk_drew ?_ | refine blk_alloc ?_ _)); exact BK319.out) hg (Kd.R_ne HO_7.out BK319.out (by decide))); have n3_ := Aside0.mk (Kd.R_after (ok := (fun _ => True)) (by (with_reducible repeat (first | apply Kd.R_alloc | apply Kd.R_drewN | apply Kd.R_drew)); exact Kd.R_mono (Kd.R_far (p := ⟨gb335, 4, none⟩) (Kd.R_far (p := ⟨gb335, 3, none⟩) (Kd.R_far (p := ⟨gb335, 2, none⟩) (Kd.R_far (p := ⟨gb335, 1, none⟩) (Kd.R_far (p := ⟨gb335, 0, none⟩) (Kd.R_types HO330.out BK335.out (by decide)) (fun _ hk => hk.2) (.slice Ao57 t328.length co57)) (fun _ hk => hk.2) (.int .u64 t331)) (fun _ hk => hk.2) (.int .u64 t332)) (fun _ hk => hk.2) (.int .i64 t333)) (fun _ hk => hk.2) (.int .i64 t334)) (fun _ hk => ⟨trivial, hk.1.2⟩)) hg hat); have n4_ := Aside0.mk (blk_grown (g := gb335) (o := .cells #[.slice Ao57 t328.length co57, .int .u64 t331, .int .u64 t332, .int .i64 t333, .int .i64 t334] 36 (0, 0)) (by (with_reducible repeat (first | refine blk_drewN ?_ _ | refine blk_drew ?_ | refine blk_alloc ?_ _)); refine blk_put (cs := #[.slice Ao57 t328.length co57, .int .u64 t331, .int .u64 t332, .int .i64 t333, .int .i64 0]) ?_ 4 _ rfl; (with_reducible repeat (first | refine blk_drewN ?_ _ | refine blk_drew ?_ | refine blk_alloc ?_ _)); refine blk_put (cs := #[.slice Ao57 t328.length co57, .int .u64 t331, .int .u64 t332, .int .i64 0, .int .i64 0]) ?_ 3 _ rfl; (with_reducible repeat (first | refine blk_drewN ?_ _ | refine blk_drew ?_ | refine blk_alloc ?_ _)); refine blk_put (cs := #[.slice Ao57 t328.length co57, .int .u64 t331, .int .u64 0, .int .i64 0, .int .i64 0]) ?_ 2 _ rfl; (with_reducible repeat (first | refine blk_drewN ?_ _ | refine blk_drew ?_ | refine blk_alloc ?_ _)); refine blk_put (cs := #[.slice Ao57 t328.length co57, .int .u64 0, .int .u64 0, .int .i64 0, .int .i64 0]) ?_ 1 _ rfl; (with_reducible repeat (first | refine blk_drewN ?_ _ | refine blk_drew ?_ | refine blk_alloc ?_ _)); refine blk_put (cs := #[.slice none 0 0, .int .u64 0, .int .u64 0, .int .i64 0, .int .i64 0]) ?_ 0 _ rfl; (with_reducible repeat (first | refine blk_drewN ?_ _ | refine blk_drew ?_ | refine blk_alloc ?_ _)); exact BK335.out) hg (Kd.R_ne HO_7.out BK335.out (by decide))); have n5_ := Aside0.mk (hb); have n6_ := Aside0.mk (ho); clear HO_6; clear BK313; clear BK319; clear HO330; clear BK335; clear HB; clear HO_7; have HO_6 := n0_; have BK313 := n1_; have BK319 := n2_; have HO330 := n3_; have BK335 := n4_; have HB := n5_; have HO345 := n6_; clear n0_ n1_ n2_ n3_ n4_ n5_ n6_; clear ho hb hg hat; obtain ⟨Ao62, co62, eo62⟩ := Kd.R_slice HO345.out; subst eo62; have hcz63_0 : w61.cell? ⟨gb335, 0, none⟩ = some (.slice Ao57 t328.length co57) := (blk_cell BK335.out 0).trans rfl; have hcz63_1 : w61.cell? ⟨gb335, 1, none⟩ = some (.int .u64 t331) := (blk_cell BK335.out 1).trans rfl; have hcz63_2 : w61.cell? ⟨gb335, 2, none⟩ = some (.int .u64 t332) := (blk_cell BK335.out 2).trans rfl; have hcz63_3 : w61.cell? ⟨gb335, 3, none⟩ = some (.int .i64 t333) := (blk_cell BK335.out 3).trans rfl; have hcz63_4 : w61.cell? ⟨gb335, 4, none⟩ = some (.int .i64 t334) := (blk_cell BK335.out 4).trans rfl; have hfz63_0 := blk_frozen BK335.out 0; have hfz63_1 := blk_frozen BK335.out 1; have hfz63_2 := blk_frozen BK335.out 2; have hfz63_3 := blk_frozen BK335.out 3; have hfz63_4 := blk_frozen BK335.out 4; have hcz64_0 : w61.cell? ⟨gb319, 0, none⟩ = some (.int .u64 t314) := (blk_cell BK319.out 0).trans rfl; have hcz64_1 : w61.cell? ⟨gb319, 1, none⟩ = some (.int .u64 t315) := (blk_cell BK319.out 1).trans rfl; have hfz64_0 := blk_frozen BK319.out 0; have hfz64_1 := blk_frozen BK319.out 1) | ((with_reducible refine gate_callee (f := 29) rfl ?_); refine goesL_ (some 54) rfl rfl Tryd.func29 (by kernel_rfl) rfl #[.agg #[.int .u64 t314, .int .u64 t315]] rfl (by (try simp only [List.map_toArray, List.map_cons, List.map_nil]); first | done | rfl | (simp only [List.length_drop, List.length_take]; rfl)) ?_; (with_reducible refine (spec_NodeOf.calls kj9 t314 t315 t346 t347 _ A50.out).mono ?_); rintro e w65 ⟨rfl, hb⟩; refine ⟨_, rfl, ?_⟩; have n0_ := Aside0.mk (Kd.Q_below (by (with_reducible repeat (first | apply Kd.Q_alloc | apply Kd.Q_drewN | apply Kd.Q_drew)); exact (Kd.Q_mono (Kd.Q_far (p := ⟨gb335, 0, none⟩) (Kd.Q_types HO_6.out BK335.out (by decide)) (fun _ hk => hk.2) (.slice Ao62 y343.length co62)) (fun _ h_ => h_.1))) hb); have n1_ := Aside0.mk (Kd.R_below (by (with_reducible repeat (first | apply Kd.R_alloc | apply Kd.R_drewN | apply Kd.R_drew)); exact (Kd.R_mono (Kd.R_far (p := ⟨gb335, 0, none⟩) (Kd.R_types HO330.out BK335.out (by decide)) (fun _ hk => hk.2) (.slice Ao62 y343.length co62)) (fun _ h_ => h_.1))) hb); have n2_ := Aside0.mk (Kd.R_below (by (with_reducible repeat (first | apply Kd.R_alloc | apply Kd.R_drewN | apply Kd.R_drew)); exact (Kd.R_mono (Kd.R_far (p := ⟨gb335, 0, none⟩) (Kd.R_types HO345.out BK335.out (by decide)) (fun _ hk => hk.2) (.slice Ao62 y343.length co62)) (fun _ h_ => h_.1))) hb); have n3_ := Aside0.mk (blk_below (g := gb313) (o := .cells #[.slice none 0 0, .int .u64 0, .int .u64 0, .int .i64 0, .int .i64 0] 36 (0, 0)) (by (with_reducible repeat (first | refine blk_drewN ?_ _ | refine blk_drew ?_ | refine blk_alloc ?_ _)); refine blk_far ?_ NB313_335.out _; (with_reducible repeat (first | refine blk_drewN ?_ _ | refine blk_drew ?_ | refine blk_alloc ?_ _)); exact BK313.out) hb); have n4_ := Aside0.mk (blk_below (g := gb319) (o := .cells #[.int .u64 t314, .int .u64 t315] 29 (0, 0)) (by (with_reducible repeat (first | refine blk_drewN ?_ _ | refine blk_drew ?_ | refine blk_alloc ?_ _)); refine blk_far ?_ NB319_335.out _; (with_reducible repeat (first | refine blk_drewN ?_ _ | refine blk_drew ?_ | refine blk_alloc ?_ _)); exact BK319.out) hb); have n5_ := Aside0.mk (blk_below (g := gb335) (o := .cells #[.slice Ao62 y343.length co62, .int .u64 t331, .int .u64 t332, .int .i64 t333, .int .i64 t334] 36 (0, 0)) (by (with_reducible repeat (first | refine blk_drewN ?_ _ | refine blk_drew ?_ | refine blk_alloc ?_ _)); refine blk_put (cs := #[.slice Ao57 t328.length co57, .int .u64 t331, .int .u64 t332, .int .i64 t333, .int .i64 t334]) ?_ 0 _ rfl; (with_reducible repeat (first | refine blk_drewN ?_ _ | refine blk_drew ?_ | refine blk_alloc ?_ _)); exact BK335.out) hb); have n6_ := Aside0.mk (below_step (by repeat (first | (with_reducible first | exact HB.out | apply below_alloc | apply pw_below_drewN | apply below_drew1 | refine below_set ?_ GE313.out | refine below_set ?_ GE319.out | refine below_set ?_ GE335.out) | exact HB.out)) hb); clear HO_6; clear HO330; clear HO345; clear BK313; clear BK319; clear BK335; clear HB; have HO_6 := n0_; have HO330 := n1_; have HO345 := n2_; have BK313 := n3_; have BK319 := n4_; have BK335 := n5_; have HB := n6_; clear n0_ n1_ n2_ n3_ n4_ n5_ n6_; (try clear hb); (try clear hb2); (try clear hk); (try clear hi)) | ((with_reducible refine gate_callee (f := 31) rfl ?_); refine goesL_ (some 56) rfl rfl Tryd.func31 (by kernel_rfl) rfl #[.agg #[.int .u64 t346, .int .u64 t347], .int .u64 a1] rfl (by (try simp only [List.map_toArray, List.map_cons, List.map_nil]); first | done | rfl | (simp only [List.length_drop, List.length_take]; rfl)) ?_; (with_reducible refine (spec_fork.calls kj9 t346 t347 a1 t348 t349 _ A51.out).mono ?_); rintro e w66 ⟨rfl, hb⟩; refine ⟨_, rfl, ?_⟩; have n0_ := Aside0.mk (Kd.Q_below (by (with_reducible repeat (first | apply Kd.Q_alloc | apply Kd.Q_drewN | apply Kd.Q_drew)); exact HO_6.out) hb); have n1_ := Aside0.mk (Kd.R_below (by (with_reducible repeat (first | apply Kd.R_alloc | apply Kd.R_drewN | apply Kd.R_drew)); exact HO330.out) hb); have n2_ := Aside0.mk (Kd.R_below (by (with_reducible repeat (first | apply Kd.R_alloc | apply Kd.R_drewN | apply Kd.R_drew)); exact HO345.out) hb); have n3_ := Aside0.mk (blk_below (g := gb313) (o := .cells #[.slice none 0 0, .int .u64 0, .int .u64 0, .int .i64 0, .int .i64 0] 36 (0, 0)) (by (with_reducible repeat (first | refine blk_drewN ?_ _ | refine blk_drew ?_ | refine blk_alloc ?_ _)); exact BK313.out) hb); have n4_ := Aside0.mk (blk_below (g := gb319) (o := .cells #[.int .u64 t314, .int .u64 t315] 29 (0, 0)) (by (with_reducible repeat (first | refine blk_drewN ?_ _ | refine blk_drew ?_ | refine blk_alloc ?_ _)); exact BK319.out) hb); have n5_ := Aside0.mk (blk_below (g := gb335) (o := .cells #[.slice Ao62 y343.length co62, .int .u64 t331, .int .u64 t332, .int .i64 t333, .int .i64 t334] 36 (0, 0)) (by (with_reducible repeat (first | refine blk_drewN ?_ _ | refine blk_drew ?_ | refine blk_alloc ?_ _)); exact BK335.out) hb); have n6_ := Aside0.mk (below_step (by repeat (first | (with_reducible first | exact HB.out | apply below_alloc | apply pw_below_drewN | apply below_drew1 | refine below_set ?_ GE313.out | refine below_set ?_ GE319.out | refine below_set ?_ GE335.out) | exact HB.out)) hb); clear HO_6; clear HO330; clear HO345; clear BK313; clear BK319; clear BK335; clear HB; have HO_6 := n0_; have HO330 := n1_; have HO345 := n2_; have BK313 := n3_; have BK319 := n4_; have BK335 := n5_; have HB := n6_; clear n0_ n1_ n2_ n3_ n4_ n5_ n6_; (try clear hb); (try clear hb2); (try clear hk); (try clear hi); have hcz67_0 : w66.cell? ⟨gb335, 0, none⟩ = some (.slice Ao62 y343.length co62) := (blk_cell BK335.out 0).trans rfl; have hcz67_1 : w66.cell? ⟨gb335, 1, none⟩ = some (.int .u64 t331) := (blk_cell BK335.out 1).trans rfl; have hcz67_2 : w66.cell? ⟨gb335, 2, none⟩ = some (.int .u64 t332) := (blk_cell BK335.out 2).trans rfl; have hcz67_3 : w66.cell? ⟨gb335, 3, none⟩ = some (.int .i64 t333) := (blk_cell BK335.out 3).trans rfl; have hcz67_4 : w66.cell? ⟨gb335, 4, none⟩ = some (.int .i64 t334) := (blk_cell BK335.out 4).trans rfl; have hfz67_0 := blk_frozen BK335.out 0; have hfz67_1 := blk_frozen BK335.out 1; have hfz67_2 := blk_frozen BK335.out 2; have hfz67_3 := blk_frozen BK335.out 3; have hfz67_4 := blk_frozen BK335.out 4; have hcz68_0 : w66.cell? ⟨gb313, 0, none⟩ = some (.slice none 0 0) := (blk_cell BK313.out 0).trans rfl; have hcz68_1 : w66.cell? ⟨gb313, 1, none⟩ = some (.int .u64 0) := (blk_cell BK313.out 1).trans rfl; have hcz68_2 : w66.cell? ⟨gb313, 2, none⟩ = some (.int .u64 0) := (blk_cell BK313.out 2).trans rfl; have hcz68_3 : w66.cell? ⟨gb313, 3, none⟩ = some (.int .i64 0) := (blk_cell BK313.out 3).trans rfl; have hcz68_4 : w66.cell? ⟨gb313, 4, none⟩ = some (.int .i64 0) := (blk_cell BK313.out 4).trans rfl; have hfz68_0 := blk_frozen BK313.out 0; have hfz68_1 := blk_frozen BK313.out 1; have hfz68_2 := blk_frozen BK313.out 2; have hfz68_3 := blk_frozen BK313.out 3; have hfz68_4 := blk_frozen BK313.out 4))
                refine bodyPost_ret (results_cell_row rfl _ _ gb313 36 #[.slice Ao62 y343.length co62, .int .u64 t348, .int .u64 t349, .int .i64 t333, .int .i64 t334] (0, 0) _ rfl (by (with_reducible repeat (first | refine blk_drewN ?_ _ | refine blk_drew ?_ | refine blk_alloc ?_ _)); refine blk_put (cs := #[.slice Ao62 y343.length co62, .int .u64 t348, .int .u64 t349, .int .i64 t333, .int .i64 0]) ?_ 4 _ rfl; (with_reducible repeat (first | refine blk_drewN ?_ _ | refine blk_drew ?_ | refine blk_alloc ?_ _)); refine blk_put (cs := #[.slice Ao62 y343.length co62, .int .u64 t348, .int .u64 t349, .int .i64 0, .int .i64 0]) ?_ 3 _ rfl; (with_reducible repeat (first | refine blk_drewN ?_ _ | refine blk_drew ?_ | refine blk_alloc ?_ _)); refine blk_put (cs := #[.slice Ao62 y343.length co62, .int .u64 t348, .int .u64 0, .int .i64 0, .int .i64 0]) ?_ 2 _ rfl; (with_reducible repeat (first | refine blk_drewN ?_ _ | refine blk_drew ?_ | refine blk_alloc ?_ _)); refine blk_put (cs := #[.slice Ao62 y343.length co62, .int .u64 0, .int .u64 0, .int .i64 0, .int .i64 0]) ?_ 1 _ rfl; (with_reducible repeat (first | refine blk_drewN ?_ _ | refine blk_drew ?_ | refine blk_alloc ?_ _)); refine blk_put (cs := #[.slice none 0 0, .int .u64 0, .int .u64 0, .int .i64 0, .int .i64 0]) ?_ 0 _ rfl; (with_reducible repeat (first | refine blk_drewN ?_ _ | refine blk_drew ?_ | refine blk_alloc ?_ _)); refine blk_far ?_ NB313_335.out _; (with_reducible repeat (first | refine blk_drewN ?_ _ | refine blk_drew ?_ | refine blk_alloc ?_ _)); refine blk_far ?_ NB313_335.out _; (with_reducible repeat (first | refine blk_drewN ?_ _ | refine blk_drew ?_ | refine blk_alloc ?_ _)); exact BK313.out) Tryd.underlying36 rfl (by kernel_rfl)) rfl ?_
                exact ⟨_, by first | rfl | (simp [errW_none, errW_some] <;> rfl) | (simp [*, errW_none, errW_some] <;> rfl), by (with_reducible repeat (first | apply Kd.R_alloc | apply Kd.R_drewN | apply Kd.R_drew)); exact Kd.R_mono (Kd.R_far (p := ⟨gb313, 4, none⟩) (Kd.R_far (p := ⟨gb313, 3, none⟩) (Kd.R_far (p := ⟨gb313, 2, none⟩) (Kd.R_far (p := ⟨gb313, 1, none⟩) (Kd.R_far (p := ⟨gb313, 0, none⟩) (Kd.R_far (p := ⟨gb335, 2, none⟩) (Kd.R_far (p := ⟨gb335, 1, none⟩) (Kd.R_types (Kd.R_types HO345.out BK335.out (by decide)) BK313.out (by decide)) (fun _ hk => hk.1.2) (.int .u64 t348)) (fun _ hk => hk.1.2) (.int .u64 t349)) (fun _ hk => hk.2) (.slice Ao62 y343.length co62)) (fun _ hk => hk.2) (.int .u64 t348)) (fun _ hk => hk.2) (.int .u64 t349)) (fun _ hk => hk.2) (.int .i64 t333)) (fun _ hk => hk.2) (.int .i64 t334)) (fun _ hk => trivial), by repeat (first | (with_reducible first | exact HB.out | apply below_alloc | apply pw_below_drewN | apply below_drew1 | refine below_set ?_ GE313.out | refine below_set ?_ GE319.out | refine below_set ?_ GE335.out) | exact HB.out)⟩
              · rw [if_neg c49] at H
                exact absurd H (by simp)

end Go.Proofs.YtmcelgfekffinaaDoor.Qc
