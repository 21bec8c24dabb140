-- Written by wip/tools/myprint.py for this seat (the kit's print with changes); Lean checks it.
import Derived.Test.YtmcelgfekffinaaDoorQcx0
import Derived.Test.YtmcelgfekffinaaDoorQcx2
import Derived.Test.YtmcelgfekffinaaDoorQcx5
namespace Go.Proofs.YtmcelgfekffinaaDoor.Qc
open Go.RowKit Go.Proofs.YtmcelgfekffinaaDoorW.PrintWords Go.Proofs.YtmcelgfekffinaaDoorW.PrintLast Go.Proofs.YtmcelgfekffinaaDoorW.PrintMore
attribute [local go_sem] max2_int min2_int max_two min_two max_three min_three max_four min_four   -- for this text's walks alone
set_option linter.unusedVariables false
set_option linter.unusedSimpArgs false

/-! ### impl_Consistency: function 16 -/
def impl_Consistency0.f (k : Nat) (a0 : Int) (a1 : Int) : Option ((List (S27)) × Int × Int × Int × Int × Bool) := (proof_Consistency.f k a0 a1).bind fun bt232 => (if bt232.2.2.2.2.2.isNone = true then ((impl_fromProof.f k bt232.1 bt232.2.1 bt232.2.2.1 bt232.2.2.2.1 bt232.2.2.2.2.1).bind fun bt242 => (some (bt242.1, bt242.2.1, bt242.2.2.1, bt242.2.2.2.1, bt242.2.2.2.2, true))) else (some (([] : List (S27)), 0, 0, 0, 0, false)))
theorem impl_Consistency0.mono : ∀ a0 a1 k, LeO (impl_Consistency0.f k a0 a1) (impl_Consistency0.f (k + 1) a0 a1) := by
  intro a0 a1 k
  unfold impl_Consistency0.f
  repeat' first
      | (with_reducible exact impl_fromProof.mono _ _ _ _ _ _)
      | (with_reducible exact proof_Consistency.mono _ _ _)
      | (with_reducible exact LeO.refl _)
      | (with_reducible exact LeO.none _)
      | (with_reducible refine LeO.ite ?_ ?_)
      | (with_reducible refine LeO.bind ?_ (fun _ => ?_))
      | exact impl_fromProof.mono _ _ _ _ _ _
      | exact proof_Consistency.mono _ _ _
      | exact LeO.none _
      | refine LeO.ite ?_ ?_
      | refine LeO.bind ?_ (fun _ => ?_)
set_option maxHeartbeats 8000000 in
set_option maxRecDepth 100000 in
theorem impl_Consistency0.calls (k : Nat) (a0 : Int) (a1 : Int) (r1 : List (S27)) (r2 : Int) (r3 : Int) (r4 : Int) (r5 : Int) (r6 : Bool) (w : World) (HG_ : Glob w) (h : impl_Consistency0.f k a0 a1 = some (r1, r2, r3, r4, r5, r6)) :
    Calls Tryd.prog 16 #[.int .u64 a0, .int .u64 a1] w fun e w' => ∃ v0_ : Value, e = .returned (.tuple #[.agg #[v0_, .int .u64 r2, .int .u64 r3, .int .i64 r4, .int .i64 r5], .bool r6]) ∧ Kd.R k27 27 w' w.heap.size (fun _ => True) v0_ r1 ∧ Below w.heap.size w w' := by
  have hu36 := Tryd.underlying36
  have hu52 := Tryd.underlying52
  have hu56 := Tryd.underlying56
  have HG := Aside0.mk HG_
  clear HG_
  have HB := Aside0.mk (Below.refl w.heap.size w)
  have H : ((proof_Consistency.f k a0 a1).bind fun bt232 => (if bt232.2.2.2.2.2.isNone = true then ((impl_fromProof.f k bt232.1 bt232.2.1 bt232.2.2.1 bt232.2.2.2.1 bt232.2.2.2.2.1).bind fun bt242 => (some (bt242.1, bt242.2.1, bt242.2.2.1, bt242.2.2.2.1, bt242.2.2.2.2, true))) else (some (([] : List (S27)), 0, 0, 0, 0, false)))) = some (r1, r2, r3, r4, r5, r6) := h
  clear h
  replace H := Option.bind_eq_some_iff.mp H
  obtain ⟨⟨t232, t235, t236, t237, t238, t239⟩, A30, H⟩ := H
  replace H : (if t239.isNone = true then ((impl_fromProof.f k t232 t235 t236 t237 t238).bind fun bt242 => (some (bt242.1, bt242.2.1, bt242.2.2.1, bt242.2.2.2.1, bt242.2.2.2.2, true))) else (some (([] : List (S27)), 0, 0, 0, 0, false))) = some (r1, r2, r3, r4, r5, r6) := H
  have A3 := Aside0.mk A30
  clear A30
  rcases t239 with _ | q241
  · have H1 : ((impl_fromProof.f k t232 t235 t236 t237 t238).bind fun bt242 => (some (bt242.1, bt242.2.1, bt242.2.2.1, bt242.2.2.2.1, bt242.2.2.2.2, true))) = some (r1, r2, r3, r4, r5, r6) := by rw [if_pos (show (none : Option Int).isNone = true by rfl)] at H; exact H
    clear H
    have H := H1
    clear H1
    try simp only [errW_none, errW_some]
    replace H := Option.bind_eq_some_iff.mp H
    obtain ⟨⟨t242, t245, t246, t247, t248⟩, A40, H⟩ := H
    replace H : (some (t242, t245, t246, t247, t248, true)) = some (r1, r2, r3, r4, r5, r6) := H
    have A4 := Aside0.mk A40
    clear A40
    simp only [Option.some.injEq, Prod.mk.injEq] at H
    obtain ⟨rfl, rfl, rfl, rfl, rfl, rfl⟩ := H
    go_enter Tryd.func16, Tryd.ntmps16
    go_wp2_with (first | ((with_reducible refine gate_dst (N := 4) rfl ?_); refine box_event ?hg (N := 4) ?hd (cs := #[.slice none 0 0, .int .u64 0, .int .u64 0, .int .i64 0, .int .i64 0]) (t := 36) ?hr ?_; (case hd => rfl); (case hg => rfl); (case hr => first | (go_simp; done) | (go_simp; rfl)); intro gb231 hg w5 hbox hb; have n0_ := Aside0.mk (below_step (by repeat (first | (with_reducible first | exact HB.out | apply below_alloc | apply pw_below_drewN | apply below_drew1) | exact HB.out)) hb); have n1_ := Aside0.mk (hbox); have n2_ := Aside0.mk ((by rw [hg]; exact (below_size (by repeat (first | (with_reducible first | exact HB.out | apply below_alloc | apply pw_below_drewN | apply below_drew1) | exact HB.out))) : w.heap.size ≤ gb231)); have n3_ := Aside0.mk ((by rw [hg]; exact (below_size (by repeat (first | (with_reducible first | exact HB.out | apply below_alloc | apply pw_below_drewN | apply below_drew1) | exact HB.out))) : w.heap.size ≤ gb231)); clear HB; have HB := n0_; have BK231 := n1_; have GW231 := n2_; have GE231 := n3_; clear n0_ n1_ n2_ n3_; clear hb hbox hg) | ((with_reducible refine gate_callee (f := 26) rfl ?_); refine goesL_ (some 11) rfl rfl Tryd.func26 (by kernel_rfl) rfl #[.int .u64 a0, .int .u64 a1] rfl (by (try simp only [List.map_toArray, List.map_cons, List.map_nil]); first | done | rfl | (simp only [List.length_drop, List.length_take]; rfl)) ?_; (with_reducible refine (proof_Consistency.calls k a0 a1 t232 t235 t236 t237 t238 none _ ?side1 A3.out).mono ?_); (case side1 => first | exact HG.out | exact Glob.drewN HG.out _ | exact Glob.below HG.out (by repeat (first | (with_reducible first | exact HB.out | apply below_alloc | apply pw_below_drewN | apply below_drew1 | refine below_set ?_ GE231.out) | exact HB.out))); rintro e w6 ⟨v233, rfl, ho0, hb⟩; refine ⟨_, rfl, ?_⟩; have n0_ := Aside0.mk (Kd.Q_lower ho0 (below_size (by repeat (first | (with_reducible first | exact HB.out | apply below_alloc | apply pw_below_drewN | apply below_drew1 | refine below_set ?_ GE231.out) | exact HB.out)))); have n1_ := Aside0.mk (blk_below (g := gb231) (o := .cells #[.slice none 0 0, .int .u64 0, .int .u64 0, .int .i64 0, .int .i64 0] 36 (0, 0)) (by (with_reducible repeat (first | refine blk_drewN ?_ _ | refine blk_drew ?_ | refine blk_alloc ?_ _)); exact BK231.out) hb); have n2_ := Aside0.mk (below_step (by repeat (first | (with_reducible first | exact HB.out | apply below_alloc | apply pw_below_drewN | apply below_drew1 | refine below_set ?_ GE231.out) | exact HB.out)) hb); clear BK231; clear HB; have HO234 := n0_; have BK231 := n1_; have HB := n2_; clear n0_ n1_ n2_; (try clear hb); (try clear hb2); (try clear hk); (try clear hi); (try clear ho0); (try simp only [errW_none, errW_some])) | ((with_reducible refine gate_dst (N := 6) rfl ?_); refine box_event ?hg (N := 6) ?hd (cs := #[.slice none 0 0, .int .i64 0, .int .i64 0, .int .u64 0, .int .u64 0]) (t := 52) ?hr ?_; (case hd => rfl); (case hg => rfl); (case hr => first | (go_simp; done) | (go_simp; rfl)); intro gb240 hg w7 hbox hb; have n0_ := Aside0.mk (Kd.Q_below (by (with_reducible repeat (first | apply Kd.Q_alloc | apply Kd.Q_drewN | apply Kd.Q_drew)); exact HO234.out) hb); have n1_ := Aside0.mk (blk_below (g := gb231) (o := .cells #[.slice none 0 0, .int .u64 0, .int .u64 0, .int .i64 0, .int .i64 0] 36 (0, 0)) (by (with_reducible repeat (first | refine blk_drewN ?_ _ | refine blk_drew ?_ | refine blk_alloc ?_ _)); exact BK231.out) hb); have n2_ := Aside0.mk (below_step (by repeat (first | (with_reducible first | exact HB.out | apply below_alloc | apply pw_below_drewN | apply below_drew1 | refine below_set ?_ GE231.out) | exact HB.out)) hb); have n3_ := Aside0.mk (hbox); have n4_ := Aside0.mk ((by rw [hg]; exact (below_size (by repeat (first | (with_reducible first | exact HB.out | apply below_alloc | apply pw_below_drewN | apply below_drew1 | refine below_set ?_ GE231.out) | exact HB.out))) : w.heap.size ≤ gb240)); have n5_ := Aside0.mk ((by rw [hg]; exact (below_size (by repeat (first | (with_reducible first | exact HB.out | apply below_alloc | apply pw_below_drewN | apply below_drew1 | refine below_set ?_ GE231.out) | exact HB.out))) : w.heap.size ≤ gb240)); have n6_ := Aside0.mk ((by rw [hg]; exact Nat.ne_of_lt (blk_lt (g := gb231) (o := .cells #[.slice none 0 0, .int .u64 0, .int .u64 0, .int .i64 0, .int .i64 0] 36 (0, 0)) (by (with_reducible repeat (first | refine blk_drewN ?_ _ | refine blk_drew ?_ | refine blk_alloc ?_ _)); exact BK231.out)) : gb231 ≠ gb240)); have n7_ := Aside0.mk ((by rw [hg]; exact Nat.ne_of_gt (blk_lt (g := gb231) (o := .cells #[.slice none 0 0, .int .u64 0, .int .u64 0, .int .i64 0, .int .i64 0] 36 (0, 0)) (by (with_reducible repeat (first | refine blk_drewN ?_ _ | refine blk_drew ?_ | refine blk_alloc ?_ _)); exact BK231.out)) : gb240 ≠ gb231)); clear HO234; clear BK231; clear HB; have HO234 := n0_; have BK231 := n1_; have HB := n2_; have BK240 := n3_; have GW240 := n4_; have GE240 := n5_; have NB231_240 := n6_; have NB240_231 := n7_; clear n0_ n1_ n2_ n3_ n4_ n5_ n6_ n7_; clear hb hbox hg; obtain ⟨Ao8, co8, eo8, _⟩ := Kd.Q_slice HO234.out; subst eo8; have hnb9 := NB240_231.out; have hnc9 := NB231_240.out; have hcz10_0 : w7.cell? ⟨gb240, 0, none⟩ = some (.slice none 0 0) := (blk_cell BK240.out 0).trans rfl; have hcz10_1 : w7.cell? ⟨gb240, 1, none⟩ = some (.int .i64 0) := (blk_cell BK240.out 1).trans rfl; have hcz10_2 : w7.cell? ⟨gb240, 2, none⟩ = some (.int .i64 0) := (blk_cell BK240.out 2).trans rfl; have hcz10_3 : w7.cell? ⟨gb240, 3, none⟩ = some (.int .u64 0) := (blk_cell BK240.out 3).trans rfl; have hcz10_4 : w7.cell? ⟨gb240, 4, none⟩ = some (.int .u64 0) := (blk_cell BK240.out 4).trans rfl; have hfz10_0 := blk_frozen BK240.out 0; have hfz10_1 := blk_frozen BK240.out 1; have hfz10_2 := blk_frozen BK240.out 2; have hfz10_3 := blk_frozen BK240.out 3; have hfz10_4 := blk_frozen BK240.out 4) | ((with_reducible refine gate_callee (f := 22) rfl ?_); refine goesL_ (some 18) rfl rfl Tryd.func22 (by kernel_rfl) rfl #[.agg #[.slice Ao8 t232.length co8, .int .i64 t235, .int .i64 t236, .int .u64 t237, .int .u64 t238]] rfl (by (try simp only [List.map_toArray, List.map_cons, List.map_nil]); first | done | rfl | (simp only [List.length_drop, List.length_take]; rfl)) ?_; (with_reducible refine (impl_fromProof.calls k _ _ t232 t235 t236 t237 t238 t242 t245 t246 t247 t248 _ ?side1 ?side2 A4.out).mono ?_); (case side1 => refine (Kd.Q_reads' (e := 46) (base := w.heap.size) (ok := fun k_ => True) (n := t232.length) (c := co8) ?_).2.2; exact (by (with_reducible repeat (first | apply Kd.Q_alloc | apply Kd.Q_drewN | apply Kd.Q_drew)); exact (Kd.Q_mono (Kd.Q_far (p := ⟨gb240, 4, none⟩) (Kd.Q_far (p := ⟨gb240, 3, none⟩) (Kd.Q_far (p := ⟨gb240, 2, none⟩) (Kd.Q_far (p := ⟨gb240, 1, none⟩) (Kd.Q_far (p := ⟨gb240, 0, none⟩) (Kd.Q_types HO234.out BK240.out (by decide)) (fun _ hk => hk.2) (.slice Ao8 t232.length co8)) (fun _ hk => hk.2) (.int .i64 t235)) (fun _ hk => hk.2) (.int .i64 t236)) (fun _ hk => hk.2) (.int .u64 t237)) (fun _ hk => hk.2) (.int .u64 t238)) (fun _ h_ => h_.1)))); (case side2 => exact (Kd.Q_reads' HO234.out).2.1); rintro e w11 ⟨v243, rfl, ho0, hb⟩; refine ⟨_, rfl, ?_⟩; have n0_ := Aside0.mk (Kd.Q_below (by (with_reducible repeat (first | apply Kd.Q_alloc | apply Kd.Q_drewN | apply Kd.Q_drew)); exact (Kd.Q_mono (Kd.Q_far (p := ⟨gb240, 4, none⟩) (Kd.Q_far (p := ⟨gb240, 3, none⟩) (Kd.Q_far (p := ⟨gb240, 2, none⟩) (Kd.Q_far (p := ⟨gb240, 1, none⟩) (Kd.Q_far (p := ⟨gb240, 0, none⟩) (Kd.Q_types HO234.out BK240.out (by decide)) (fun _ hk => hk.2) (.slice Ao8 t232.length co8)) (fun _ hk => hk.2) (.int .i64 t235)) (fun _ hk => hk.2) (.int .i64 t236)) (fun _ hk => hk.2) (.int .u64 t237)) (fun _ hk => hk.2) (.int .u64 t238)) (fun _ h_ => h_.1))) hb); have n1_ := Aside0.mk (Kd.R_lower ho0 (below_size (by repeat (first | (with_reducible first | exact HB.out | apply below_alloc | apply pw_below_drewN | apply below_drew1 | refine below_set ?_ GE231.out | refine below_set ?_ GE240.out) | exact HB.out)))); have n2_ := Aside0.mk (blk_below (g := gb231) (o := .cells #[.slice none 0 0, .int .u64 0, .int .u64 0, .int .i64 0, .int .i64 0] 36 (0, 0)) (by (with_reducible repeat (first | refine blk_drewN ?_ _ | refine blk_drew ?_ | refine blk_alloc ?_ _)); refine blk_far ?_ NB231_240.out _; (with_reducible repeat (first | refine blk_drewN ?_ _ | refine blk_drew ?_ | refine blk_alloc ?_ _)); refine blk_far ?_ NB231_240.out _; (with_reducible repeat (first | refine blk_drewN ?_ _ | refine blk_drew ?_ | refine blk_alloc ?_ _)); refine blk_far ?_ NB231_240.out _; (with_reducible repeat (first | refine blk_drewN ?_ _ | refine blk_drew ?_ | refine blk_alloc ?_ _)); refine blk_far ?_ NB231_240.out _; (with_reducible repeat (first | refine blk_drewN ?_ _ | refine blk_drew ?_ | refine blk_alloc ?_ _)); refine blk_far ?_ NB231_240.out _; (with_reducible repeat (first | refine blk_drewN ?_ _ | refine blk_drew ?_ | refine blk_alloc ?_ _)); exact BK231.out) hb); have n3_ := Aside0.mk (blk_below (g := gb240) (o := .cells #[.slice Ao8 t232.length co8, .int .i64 t235, .int .i64 t236, .int .u64 t237, .int .u64 t238] 52 (0, 0)) (by (with_reducible repeat (first | refine blk_drewN ?_ _ | refine blk_drew ?_ | refine blk_alloc ?_ _)); refine blk_put (cs := #[.slice Ao8 t232.length co8, .int .i64 t235, .int .i64 t236, .int .u64 t237, .int .u64 0]) ?_ 4 _ rfl; (with_reducible repeat (first | refine blk_drewN ?_ _ | refine blk_drew ?_ | refine blk_alloc ?_ _)); refine blk_put (cs := #[.slice Ao8 t232.length co8, .int .i64 t235, .int .i64 t236, .int .u64 0, .int .u64 0]) ?_ 3 _ rfl; (with_reducible repeat (first | refine blk_drewN ?_ _ | refine blk_drew ?_ | refine blk_alloc ?_ _)); refine blk_put (cs := #[.slice Ao8 t232.length co8, .int .i64 t235, .int .i64 0, .int .u64 0, .int .u64 0]) ?_ 2 _ rfl; (with_reducible repeat (first | refine blk_drewN ?_ _ | refine blk_drew ?_ | refine blk_alloc ?_ _)); refine blk_put (cs := #[.slice Ao8 t232.length co8, .int .i64 0, .int .i64 0, .int .u64 0, .int .u64 0]) ?_ 1 _ rfl; (with_reducible repeat (first | refine blk_drewN ?_ _ | refine blk_drew ?_ | refine blk_alloc ?_ _)); refine blk_put (cs := #[.slice none 0 0, .int .i64 0, .int .i64 0, .int .u64 0, .int .u64 0]) ?_ 0 _ rfl; (with_reducible repeat (first | refine blk_drewN ?_ _ | refine blk_drew ?_ | refine blk_alloc ?_ _)); exact BK240.out) hb); have n4_ := Aside0.mk (below_step (by repeat (first | (with_reducible first | exact HB.out | apply below_alloc | apply pw_below_drewN | apply below_drew1 | refine below_set ?_ GE231.out | refine below_set ?_ GE240.out) | exact HB.out)) hb); clear HO234; clear BK231; clear BK240; clear HB; have HO234 := n0_; have HO244 := n1_; have BK231 := n2_; have BK240 := n3_; have HB := n4_; clear n0_ n1_ n2_ n3_ n4_; (try clear hb); (try clear hb2); (try clear hk); (try clear hi); (try clear ho0); obtain ⟨Ao12, co12, eo12⟩ := Kd.R_slice HO244.out; subst eo12; have hcz13_0 : w11.cell? ⟨gb231, 0, none⟩ = some (.slice none 0 0) := (blk_cell BK231.out 0).trans rfl; have hcz13_1 : w11.cell? ⟨gb231, 1, none⟩ = some (.int .u64 0) := (blk_cell BK231.out 1).trans rfl; have hcz13_2 : w11.cell? ⟨gb231, 2, none⟩ = some (.int .u64 0) := (blk_cell BK231.out 2).trans rfl; have hcz13_3 : w11.cell? ⟨gb231, 3, none⟩ = some (.int .i64 0) := (blk_cell BK231.out 3).trans rfl; have hcz13_4 : w11.cell? ⟨gb231, 4, none⟩ = some (.int .i64 0) := (blk_cell BK231.out 4).trans rfl; have hfz13_0 := blk_frozen BK231.out 0; have hfz13_1 := blk_frozen BK231.out 1; have hfz13_2 := blk_frozen BK231.out 2; have hfz13_3 := blk_frozen BK231.out 3; have hfz13_4 := blk_frozen BK231.out 4))
    refine bodyPost_ret (results_ct rfl _ _ gb231 36 #[.slice Ao12 t242.length co12, .int .u64 t245, .int .u64 t246, .int .i64 t247, .int .i64 t248] (0, 0) _ rfl (by (with_reducible repeat (first | refine blk_drewN ?_ _ | refine blk_drew ?_ | refine blk_alloc ?_ _)); refine blk_put (cs := #[.slice Ao12 t242.length co12, .int .u64 t245, .int .u64 t246, .int .i64 t247, .int .i64 0]) ?_ 4 _ rfl; (with_reducible repeat (first | refine blk_drewN ?_ _ | refine blk_drew ?_ | refine blk_alloc ?_ _)); refine blk_put (cs := #[.slice Ao12 t242.length co12, .int .u64 t245, .int .u64 t246, .int .i64 0, .int .i64 0]) ?_ 3 _ rfl; (with_reducible repeat (first | refine blk_drewN ?_ _ | refine blk_drew ?_ | refine blk_alloc ?_ _)); refine blk_put (cs := #[.slice Ao12 t242.length co12, .int .u64 t245, .int .u64 0, .int .i64 0, .int .i64 0]) ?_ 2 _ rfl; (with_reducible repeat (first | refine blk_drewN ?_ _ | refine blk_drew ?_ | refine blk_alloc ?_ _)); refine blk_put (cs := #[.slice Ao12 t242.length co12, .int .u64 0, .int .u64 0, .int .i64 0, .int .i64 0]) ?_ 1 _ rfl; (with_reducible repeat (first | refine blk_drewN ?_ _ | refine blk_drew ?_ | refine blk_alloc ?_ _)); refine blk_put (cs := #[.slice none 0 0, .int .u64 0, .int .u64 0, .int .i64 0, .int .i64 0]) ?_ 0 _ rfl; (with_reducible repeat (first | refine blk_drewN ?_ _ | refine blk_drew ?_ | refine blk_alloc ?_ _)); exact BK231.out) Tryd.underlying36 rfl (by kernel_rfl)) rfl ?_
    exact ⟨_, by first | rfl | (simp [errW_none, errW_some] <;> rfl) | (simp [*, errW_none, errW_some] <;> rfl), by (with_reducible repeat (first | apply Kd.R_alloc | apply Kd.R_drewN | apply Kd.R_drew)); exact Kd.R_mono (Kd.R_far (p := ⟨gb231, 4, none⟩) (Kd.R_far (p := ⟨gb231, 3, none⟩) (Kd.R_far (p := ⟨gb231, 2, none⟩) (Kd.R_far (p := ⟨gb231, 1, none⟩) (Kd.R_far (p := ⟨gb231, 0, none⟩) (Kd.R_types HO244.out BK231.out (by decide)) (fun _ hk => hk.2) (.slice Ao12 t242.length co12)) (fun _ hk => hk.2) (.int .u64 t245)) (fun _ hk => hk.2) (.int .u64 t246)) (fun _ hk => hk.2) (.int .i64 t247)) (fun _ hk => hk.2) (.int .i64 t248)) (fun _ hk => trivial), by repeat (first | (with_reducible first | exact HB.out | apply below_alloc | apply pw_below_drewN | apply below_drew1 | refine below_set ?_ GE231.out | refine below_set ?_ GE240.out) | exact HB.out)⟩
  · have H1 : (some (([] : List (S27)), 0, 0, 0, 0, false)) = some (r1, r2, r3, r4, r5, r6) := by rw [if_neg (show ¬ (some q241).isNone = true by simp)] at H; exact H
    clear H
    have H := H1
    clear H1
    try simp only [errW_none, errW_some]
    simp only [Option.some.injEq, Prod.mk.injEq] at H
    obtain ⟨rfl, rfl, rfl, rfl, rfl, rfl⟩ := H
    go_enter Tryd.func16, Tryd.ntmps16
    go_wp2_with (first | ((with_reducible refine gate_dst (N := 4) rfl ?_); refine box_event ?hg (N := 4) ?hd (cs := #[.slice none 0 0, .int .u64 0, .int .u64 0, .int .i64 0, .int .i64 0]) (t := 36) ?hr ?_; (case hd => rfl); (case hg => rfl); (case hr => first | (go_simp; done) | (go_simp; rfl)); intro gb231 hg w14 hbox hb; have n0_ := Aside0.mk (below_step (by repeat (first | (with_reducible first | exact HB.out | apply below_alloc | apply pw_below_drewN | apply below_drew1) | exact HB.out)) hb); have n1_ := Aside0.mk (hbox); have n2_ := Aside0.mk ((by rw [hg]; exact (below_size (by repeat (first | (with_reducible first | exact HB.out | apply below_alloc | apply pw_below_drewN | apply below_drew1) | exact HB.out))) : w.heap.size ≤ gb231)); have n3_ := Aside0.mk ((by rw [hg]; exact (below_size (by repeat (first | (with_reducible first | exact HB.out | apply below_alloc | apply pw_below_drewN | apply below_drew1) | exact HB.out))) : w.heap.size ≤ gb231)); clear HB; have HB := n0_; have BK231 := n1_; have GW231 := n2_; have GE231 := n3_; clear n0_ n1_ n2_ n3_; clear hb hbox hg) | ((with_reducible refine gate_callee (f := 26) rfl ?_); refine goesL_ (some 11) rfl rfl Tryd.func26 (by kernel_rfl) rfl #[.int .u64 a0, .int .u64 a1] rfl (by (try simp only [List.map_toArray, List.map_cons, List.map_nil]); first | done | rfl | (simp only [List.length_drop, List.length_take]; rfl)) ?_; (with_reducible refine (proof_Consistency.calls k a0 a1 t232 t235 t236 t237 t238 (some q241) _ ?side1 A3.out).mono ?_); (case side1 => first | exact HG.out | exact Glob.drewN HG.out _ | exact Glob.below HG.out (by repeat (first | (with_reducible first | exact HB.out | apply below_alloc | apply pw_below_drewN | apply below_drew1 | refine below_set ?_ GE231.out) | exact HB.out))); rintro e w15 ⟨v233, rfl, ho0, hb⟩; refine ⟨_, rfl, ?_⟩; have n0_ := Aside0.mk (Kd.Q_lower ho0 (below_size (by repeat (first | (with_reducible first | exact HB.out | apply below_alloc | apply pw_below_drewN | apply below_drew1 | refine below_set ?_ GE231.out) | exact HB.out)))); have n1_ := Aside0.mk (blk_below (g := gb231) (o := .cells #[.slice none 0 0, .int .u64 0, .int .u64 0, .int .i64 0, .int .i64 0] 36 (0, 0)) (by (with_reducible repeat (first | refine blk_drewN ?_ _ | refine blk_drew ?_ | refine blk_alloc ?_ _)); exact BK231.out) hb); have n2_ := Aside0.mk (below_step (by repeat (first | (with_reducible first | exact HB.out | apply below_alloc | apply pw_below_drewN | apply below_drew1 | refine below_set ?_ GE231.out) | exact HB.out)) hb); clear BK231; clear HB; have HO234 := n0_; have BK231 := n1_; have HB := n2_; clear n0_ n1_ n2_; (try clear hb); (try clear hb2); (try clear hk); (try clear hi); (try clear ho0); (try simp only [errW_none, errW_some])) | ((with_reducible refine gate_dst (N := 6) rfl ?_); refine box_event ?hg (N := 6) ?hd (cs := #[.slice none 0 0, .int .i64 0, .int .i64 0, .int .u64 0, .int .u64 0]) (t := 52) ?hr ?_; (case hd => rfl); (case hg => rfl); (case hr => first | (go_simp; done) | (go_simp; rfl)); intro gb240 hg w16 hbox hb; have n0_ := Aside0.mk (Kd.Q_below (by (with_reducible repeat (first | apply Kd.Q_alloc | apply Kd.Q_drewN | apply Kd.Q_drew)); exact HO234.out) hb); have n1_ := Aside0.mk (blk_below (g := gb231) (o := .cells #[.slice none 0 0, .int .u64 0, .int .u64 0, .int .i64 0, .int .i64 0] 36 (0, 0)) (by (with_reducible repeat (first | refine blk_drewN ?_ _ | refine blk_drew ?_ | refine blk_alloc ?_ _)); exact BK231.out) hb); have n2_ := Aside0.mk (below_step (by repeat (first | (with_reducible first | exact HB.out | apply below_alloc | apply pw_below_drewN | apply below_drew1 | refine below_set ?_ GE231.out) | exact HB.out)) hb); have n3_ := Aside0.mk (hbox); have n4_ := Aside0.mk ((by rw [hg]; exact (below_size (by repeat (first | (with_reducible first | exact HB.out | apply below_alloc | apply pw_below_drewN | apply below_drew1 | refine below_set ?_ GE231.out) | exact HB.out))) : w.heap.size ≤ gb240)); have n5_ := Aside0.mk ((by rw [hg]; exact (below_size (by repeat (first | (with_reducible first | exact HB.out | apply below_alloc | apply pw_below_drewN | apply below_drew1 | refine below_set ?_ GE231.out) | exact HB.out))) : w.heap.size ≤ gb240)); have n6_ := Aside0.mk ((by rw [hg]; exact Nat.ne_of_lt (blk_lt (g := gb231) (o := .cells #[.slice none 0 0, .int .u64 0, .int .u64 0, .int .i64 0, .int .i64 0] 36 (0, 0)) (by (with_reducible repeat (first | refine blk_drewN ?_ _ | refine blk_drew ?_ | refine blk_alloc ?_ _)); exact BK231.out)) : gb231 ≠ gb240)); have n7_ := Aside0.mk ((by rw [hg]; exact Nat.ne_of_gt (blk_lt (g := gb231) (o := .cells #[.slice none 0 0, .int .u64 0, .int .u64 0, .int .i64 0, .int .i64 0] 36 (0, 0)) (by (with_reducible repeat (first | refine blk_drewN ?_ _ | refine blk_drew ?_ | refine blk_alloc ?_ _)); exact BK231.out)) : gb240 ≠ gb231)); clear HO234; clear BK231; clear HB; have HO234 := n0_; have BK231 := n1_; have HB := n2_; have BK240 := n3_; have GW240 := n4_; have GE240 := n5_; have NB231_240 := n6_; have NB240_231 := n7_; clear n0_ n1_ n2_ n3_ n4_ n5_ n6_ n7_; clear hb hbox hg; obtain ⟨Ao17, co17, eo17, _⟩ := Kd.Q_slice HO234.out; subst eo17; have hnb18 := NB240_231.out; have hnc18 := NB231_240.out; have hcz19_0 : w16.cell? ⟨gb240, 0, none⟩ = some (.slice none 0 0) := (blk_cell BK240.out 0).trans rfl; have hcz19_1 : w16.cell? ⟨gb240, 1, none⟩ = some (.int .i64 0) := (blk_cell BK240.out 1).trans rfl; have hcz19_2 : w16.cell? ⟨gb240, 2, none⟩ = some (.int .i64 0) := (blk_cell BK240.out 2).trans rfl; have hcz19_3 : w16.cell? ⟨gb240, 3, none⟩ = some (.int .u64 0) := (blk_cell BK240.out 3).trans rfl; have hcz19_4 : w16.cell? ⟨gb240, 4, none⟩ = some (.int .u64 0) := (blk_cell BK240.out 4).trans rfl; have hfz19_0 := blk_frozen BK240.out 0; have hfz19_1 := blk_frozen BK240.out 1; have hfz19_2 := blk_frozen BK240.out 2; have hfz19_3 := blk_frozen BK240.out 3; have hfz19_4 := blk_frozen BK240.out 4; have hcz20_0 : w16.cell? ⟨gb231, 0, none⟩ = some (.slice none 0 0) := (blk_cell BK231.out 0).trans rfl; have hcz20_1 : w16.cell? ⟨gb231, 1, none⟩ = some (.int .u64 0) := (blk_cell BK231.out 1).trans rfl; have hcz20_2 : w16.cell? ⟨gb231, 2, none⟩ = some (.int .u64 0) := (blk_cell BK231.out 2).trans rfl; have hcz20_3 : w16.cell? ⟨gb231, 3, none⟩ = some (.int .i64 0) := (blk_cell BK231.out 3).trans rfl; have hcz20_4 : w16.cell? ⟨gb231, 4, none⟩ = some (.int .i64 0) := (blk_cell BK231.out 4).trans rfl; have hfz20_0 := blk_frozen BK231.out 0; have hfz20_1 := blk_frozen BK231.out 1; have hfz20_2 := blk_frozen BK231.out 2; have hfz20_3 := blk_frozen BK231.out 3; have hfz20_4 := blk_frozen BK231.out 4))
    refine bodyPost_ret (results_ct rfl _ _ gb231 36 #[.slice none 0 0, .int .u64 0, .int .u64 0, .int .i64 0, .int .i64 0] (0, 0) _ rfl (by (with_reducible repeat (first | refine blk_drewN ?_ _ | refine blk_drew ?_ | refine blk_alloc ?_ _)); refine blk_put (cs := #[.slice none 0 0, .int .u64 0, .int .u64 0, .int .i64 0, .int .i64 0]) ?_ 4 _ rfl; (with_reducible repeat (first | refine blk_drewN ?_ _ | refine blk_drew ?_ | refine blk_alloc ?_ _)); refine blk_put (cs := #[.slice none 0 0, .int .u64 0, .int .u64 0, .int .i64 0, .int .i64 0]) ?_ 3 _ rfl; (with_reducible repeat (first | refine blk_drewN ?_ _ | refine blk_drew ?_ | refine blk_alloc ?_ _)); refine blk_put (cs := #[.slice none 0 0, .int .u64 0, .int .u64 0, .int .i64 0, .int .i64 0]) ?_ 2 _ rfl; (with_reducible repeat (first | refine blk_drewN ?_ _ | refine blk_drew ?_ | refine blk_alloc ?_ _)); refine blk_put (cs := #[.slice none 0 0, .int .u64 0, .int .u64 0, .int .i64 0, .int .i64 0]) ?_ 1 _ rfl; (with_reducible repeat (first | refine blk_drewN ?_ _ | refine blk_drew ?_ | refine blk_alloc ?_ _)); refine blk_put (cs := #[.slice none 0 0, .int .u64 0, .int .u64 0, .int .i64 0, .int .i64 0]) ?_ 0 _ rfl; (with_reducible repeat (first | refine blk_drewN ?_ _ | refine blk_drew ?_ | refine blk_alloc ?_ _)); refine blk_far ?_ NB231_240.out _; (with_reducible repeat (first | refine blk_drewN ?_ _ | refine blk_drew ?_ | refine blk_alloc ?_ _)); refine blk_far ?_ NB231_240.out _; (with_reducible repeat (first | refine blk_drewN ?_ _ | refine blk_drew ?_ | refine blk_alloc ?_ _)); refine blk_far ?_ NB231_240.out _; (with_reducible repeat (first | refine blk_drewN ?_ _ | refine blk_drew ?_ | refine blk_alloc ?_ _)); refine blk_far ?_ NB231_240.out _; (with_reducible repeat (first | refine blk_drewN ?_ _ | refine blk_drew ?_ | refine blk_alloc ?_ _)); refine blk_far ?_ NB231_240.out _; (with_reducible repeat (first | refine blk_drewN ?_ _ | refine blk_drew ?_ | refine blk_alloc ?_ _)); exact BK231.out) Tryd.underlying36 rfl (by kernel_rfl)) rfl ?_
    exact ⟨_, by first | rfl | (simp [errW_none, errW_some] <;> rfl) | (simp [*, errW_none, errW_some] <;> rfl), by first | exact Kd.R_nil _ _ _ _ _ | exact Kd.N_nil _ _ _ _ _ | exact Kd.V_nil _ _ _ _ _ | exact Kd.Q_nil _ _ _ _ _ | exact Kd.S_nil _ _ _ _ _, by repeat (first | (with_reducible first | exact HB.out | apply below_alloc | apply pw_below_drewN | apply below_drew1 | refine below_set ?_ GE231.out | refine below_set ?_ GE240.out) | exact HB.out)⟩

set_option maxHeartbeats 1000000 in
set_option maxRecDepth 100000 in
theorem impl_Consistency.err (a0 a1 : Int) (w : World) (hgt : a1 < a0) : Calls Tryd.prog 16 #[.int .u64 a0, .int .u64 a1] w fun e w' => e = .returned (.tuple #[.agg #[.slice none 0 0, .int .u64 0, .int .u64 0, .int .i64 0, .int .i64 0], .bool false]) ∧ Below w.heap.size w w' := by
  go_enter Tryd.func16, Tryd.ntmps16
  go_wp2_with (go_at_call 26; refine (proof_Consistency.err _ _ _ hgt).mono ?_; rintro e w1 ⟨T, x, rfl, hb⟩; obtain ⟨hc, hf⟩ := bcell hb; have hz : w.heap.size < w1.heap.size := by (have := hb.size; simp at this; omega))
  have hz2 : w.heap.size + 1 ≤ w1.heap.size := by have := hb.size; simp at this; omega
  refine bodyPost_ret (v := .tuple #[.agg #[.slice none 0 0, .int .u64 0, .int .u64 0, .int .i64 0, .int .i64 0], .bool false]) (by simp [results, Tryd.results16, go_sem, hc, hz]) rfl ⟨rfl, ?_⟩
  have h0 : Below w.heap.size w w1 := below_then (below_alloc (Below.refl _ _) _) (by simp) hb
  repeat (with_reducible first | exact h0 | refine Below.setCell ?_ (by first | (simp; done) | (simp; omega)) _ | refine below_alloc ?_ _)
def impl_Consistency.f (k : Nat) (a0 : Int) (a1 : Int) : Option ((List (S27)) × Int × Int × Int × Int × Bool) := if a0 > a1 then (some ([], 0, 0, 0, 0, false)) else (impl_Consistency0.f k a0 a1)
theorem impl_Consistency.mono : ∀ a0 a1 k, LeO (impl_Consistency.f k a0 a1) (impl_Consistency.f (k + 1) a0 a1) := by
  intro a0 a1 k
  unfold impl_Consistency.f
  exact LeO.ite (LeO.refl _) (impl_Consistency0.mono _ _ _)
theorem impl_Consistency.calls (k : Nat) (a0 : Int) (a1 : Int) (r1 : List (S27)) (r2 : Int) (r3 : Int) (r4 : Int) (r5 : Int) (r6 : Bool) (w : World) (HG_ : Glob w) (h : impl_Consistency.f k a0 a1 = some (r1, r2, r3, r4, r5, r6)) :
    Calls Tryd.prog 16 #[.int .u64 a0, .int .u64 a1] w fun e w' => ∃ v0_ : Value, e = .returned (.tuple #[.agg #[v0_, .int .u64 r2, .int .u64 r3, .int .i64 r4, .int .i64 r5], .bool r6]) ∧ Kd.R k27 27 w' w.heap.size (fun _ => True) v0_ r1 ∧ Below w.heap.size w w' := by
  unfold impl_Consistency.f at h
  split at h
  · simp only [Option.some.injEq, Prod.mk.injEq] at h
    obtain ⟨rfl, rfl, rfl, rfl, rfl, rfl⟩ := h
    refine (impl_Consistency.err a0 a1 w (by omega)).mono ?_
    rintro e w' ⟨rfl, hb⟩
    exact ⟨_, rfl, Kd.R_nil _ _ _ _ _, hb⟩
  · exact impl_Consistency0.calls k a0 a1 r1 r2 r3 r4 r5 r6 w HG_ h

/-! ### spec_last: function 27 -/
def spec_last.f (a0 : Int) : Option (Int × Int) := some (Go.bits .and .u64 a0 (IntKind.u64.wrap (a0 - 1)), a0)
set_option maxHeartbeats 8000000 in
set_option maxRecDepth 100000 in
theorem spec_last.calls (a0 : Int) (r1 : Int) (r2 : Int) (w : World) (h : spec_last.f a0 = some (r1, r2)) :
    Calls Tryd.prog 27 #[.int .u64 a0] w fun e w' => e = .returned (.agg #[.int .u64 r1, .int .u64 r2]) ∧ Below w.heap.size w w' := by
  have hu29 := Tryd.underlying29
  have HB := Aside0.mk (Below.refl w.heap.size w)
  have H : (some (Go.bits .and .u64 a0 (IntKind.u64.wrap (a0 - 1)), a0)) = some (r1, r2) := h
  clear h
  simp only [Option.some.injEq, Prod.mk.injEq] at H
  obtain ⟨rfl, rfl⟩ := H
  go_enter Tryd.func27, Tryd.ntmps27
  go_wp2_with (first | ((with_reducible refine gate_dst (N := 2) rfl ?_); refine box_event ?hg (N := 2) ?hd (cs := #[.int .u64 0, .int .u64 0]) (t := 29) ?hr ?_; (case hd => rfl); (case hg => rfl); (case hr => first | (go_simp; done) | (go_simp; rfl)); intro gb249 hg w2 hbox hb; have n0_ := Aside0.mk (below_step (by repeat (first | (with_reducible first | exact HB.out | apply below_alloc | apply pw_below_drewN | apply below_drew1) | exact HB.out)) hb); have n1_ := Aside0.mk (hbox); have n2_ := Aside0.mk ((by rw [hg]; exact (below_size (by repeat (first | (with_reducible first | exact HB.out | apply below_alloc | apply pw_below_drewN | apply below_drew1) | exact HB.out))) : w.heap.size ≤ gb249)); have n3_ := Aside0.mk ((by rw [hg]; exact (below_size (by repeat (first | (with_reducible first | exact HB.out | apply below_alloc | apply pw_below_drewN | apply below_drew1) | exact HB.out))) : w.heap.size ≤ gb249)); clear HB; have HB := n0_; have BK249 := n1_; have GW249 := n2_; have GE249 := n3_; clear n0_ n1_ n2_ n3_; clear hb hbox hg; have hcz3_0 : w2.cell? ⟨gb249, 0, none⟩ = some (.int .u64 0) := (blk_cell BK249.out 0).trans rfl; have hcz3_1 : w2.cell? ⟨gb249, 1, none⟩ = some (.int .u64 0) := (blk_cell BK249.out 1).trans rfl; have hfz3_0 := blk_frozen BK249.out 0; have hfz3_1 := blk_frozen BK249.out 1))
  refine bodyPost_ret (results_cell_row rfl _ _ gb249 29 #[.int .u64 (Go.bits .and .u64 a0 (IntKind.u64.wrap (a0 - 1))), .int .u64 a0] (0, 0) _ rfl (by (with_reducible repeat (first | refine blk_drewN ?_ _ | refine blk_drew ?_ | refine blk_alloc ?_ _)); refine blk_put (cs := #[.int .u64 (Go.bits .and .u64 a0 (IntKind.u64.wrap (a0 - 1))), .int .u64 0]) ?_ 1 _ rfl; (with_reducible repeat (first | refine blk_drewN ?_ _ | refine blk_drew ?_ | refine blk_alloc ?_ _)); refine blk_put (cs := #[.int .u64 0, .int .u64 0]) ?_ 0 _ rfl; (with_reducible repeat (first | refine blk_drewN ?_ _ | refine blk_drew ?_ | refine blk_alloc ?_ _)); exact BK249.out) Tryd.underlying29 rfl (by kernel_rfl)) rfl ?_
  exact ⟨by first | rfl | (simp [errW_none, errW_some] <;> rfl) | (simp [*, errW_none, errW_some] <;> rfl), by repeat (first | (with_reducible first | exact HB.out | apply below_alloc | apply pw_below_drewN | apply below_drew1 | refine below_set ?_ GE249.out) | exact HB.out)⟩

/-! ### spec_split: function 48 -/
def spec_split.l0 : Nat → Int → Int → Option (Int)
  | 0, _, _ => none
  | k + 1, x0, x3 => if x3 < (IntKind.u64.wrap (x0 - x3)) then (spec_split.l0 k x0 (IntKind.u64.wrap (x3 * 2))) else (some x3)
def spec_split.f (k : Nat) (a0 : Int) : Option (Int) := spec_split.l0 k a0 1
theorem spec_split.mono_l : ∀ k, (∀ y0 y1, LeO (spec_split.l0 k y0 y1) (spec_split.l0 (k + 1) y0 y1))
  | 0 => fun _ _ r h => by simp [spec_split.l0] at h
  | k + 1 => by
    have ih0 := spec_split.mono_l k
    · intro y0 y1
      unfold spec_split.l0
      repeat' first
      | (with_reducible exact ih0 _ _)
      | (with_reducible exact LeO.refl _)
      | (with_reducible exact LeO.none _)
      | (with_reducible refine LeO.ite ?_ ?_)
      | (with_reducible refine LeO.bind ?_ (fun _ => ?_))
      | exact ih0 _ _
      | exact LeO.none _
      | refine LeO.ite ?_ ?_
      | refine LeO.bind ?_ (fun _ => ?_)
theorem spec_split.mono : ∀ a0 k, LeO (spec_split.f k a0) (spec_split.f (k + 1) a0) := by
  intro a0 k
  have ih0 := spec_split.mono_l k
  unfold spec_split.f
  repeat' first
      | (with_reducible exact ih0 _ _)
      | (with_reducible exact LeO.refl _)
      | (with_reducible exact LeO.none _)
      | (with_reducible refine LeO.ite ?_ ?_)
      | (with_reducible refine LeO.bind ?_ (fun _ => ?_))
      | exact ih0 _ _
      | exact LeO.none _
      | refine LeO.ite ?_ ?_
      | refine LeO.bind ?_ (fun _ => ?_)
set_option maxHeartbeats 8000000 in
set_option maxRecDepth 100000 in
theorem spec_split.calls (k : Nat) (a0 : Int) (r : Int) (w : World) (h : spec_split.f k a0 = some r) :
    Calls Tryd.prog 48 #[.int .u64 a0] w fun e w' => e = .returned (.int .u64 r) ∧ Drawn0 w w' := by
  have H : (spec_split.l0 k a0 1) = some r := h
  clear h
  have H' := Aside0.mk H
  clear H
  go_enter Tryd.func48, Tryd.ntmps48
  go_wp2
  (try simp only [Act.put, List.setIfInBounds_toArray, List.set_cons_zero, List.set_cons_succ])
  go_loopg [3] k (fun kq v3 w' => ∃ (x3_1 : Int), v3 = .int .u64 x3_1 ∧ Aside0 (spec_split.l0 kq a0 x3_1 = some r) ∧ Aside0 (kq ≤ k) ∧ Drawn0 w w')
  case atStart => exact ⟨(1), (by first | rfl | (simp; done) | (simp [*]; done)), H', ⟨Nat.le_refl _⟩, by repeat (first | exact Drawn0.refl _ | apply Drawn0.step)⟩
  case round =>
    clear H'
    obtain ⟨x3_1, rfl, HA, HK1, ⟨m1, rfl⟩⟩ := hrel
    cases gk with
    | zero => exact absurd HA.out (by simp [spec_split.l0])
    | succ k1 =>
      have H := HA.out
      clear HA
      simp only [spec_split.l0] at H
      by_cases c2 : x3_1 < (IntKind.u64.wrap (a0 - x3_1))
      · rw [if_pos c2] at H
        have c2b0 : decide (x3_1 < (IntKind.u64.wrap (a0 - x3_1))) = true := decide_eq_true c2
        clear c2
        have H' := Aside0.mk H
        clear H
        go_wp2
        go_roundg k1
        case measure => have := HK1.out; omega
        case rel => exact ⟨(IntKind.u64.wrap (x3_1 * 2)), (by first | rfl | (simp; done) | (simp [*]; done)), H', ⟨by have := HK1.out; omega⟩, by repeat (first | exact Drawn0.refl _ | apply Drawn0.step)⟩
      · rw [if_neg c2] at H
        have c2b0 : decide (x3_1 < (IntKind.u64.wrap (a0 - x3_1))) = false := decide_eq_false c2
        clear c2
        obtain rfl := Option.some.inj H
        go_wp2
        go_ret
        exact ⟨by first | rfl | (simp; done) | (simp [*]; done), by repeat (first | exact Drawn0.refl _ | apply Drawn0.step)⟩

end Go.Proofs.YtmcelgfekffinaaDoor.Qc
