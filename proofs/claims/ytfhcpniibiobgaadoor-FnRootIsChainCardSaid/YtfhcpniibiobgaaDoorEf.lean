/- impl.ChainBorder, walked (printed by gen_cb.py). -/
import Derived.Test.YtfhcpniibiobgaaDoorEc
namespace Go.Proofs.YtfhcpniibiobgaaDoor.Qf
open Go.RowKit Go.Proofs.YtfhcpniibiobgaaDoorW.PrintWords Go.Proofs.YtfhcpniibiobgaaDoorW.PrintLast Go.Proofs.YtfhcpniibiobgaaDoorW.PrintMore
open Hs (CB CL at_L at_B infoB infoL R_of_blk)
set_option maxHeartbeats 1000000 in
set_option maxRecDepth 100000 in
theorem doorBorder_calls (a0 a1 a2 a3 a4 a5 : Int) (A1 : Option Addr) (c1 : Nat) (s : List Int) (A2 : Option Addr) (c2 : Nat) (l : List (List Int)) (r : List Int) (w : World) (hs : CB w A1 s) (hsc : s.length ≤ c1) (hl : CL w A2 l) (hll : l.length ≤ 5864062014805) (h : chainB a0 a1 a2 a3 a4 a5 l s = some r) :
    Calls Tryd.prog 58 #[toyV a0 a1 a2 a3 a4 a5, .slice A1 s.length c1, .slice A2 l.length c2] w fun e w' => ∃ A c, e = .returned (.slice A r.length c) ∧ r.length ≤ c ∧ CB w' A r ∧ Below w.heap.size w w' := by
  have HC := Aside0.mk (chainBorder_calls a0 a1 a2 a3 a4 a5 A1 c1 s A2 c2 l r w hs hsc hl hll h)
  clear hs hl h hsc hll
  go_enter Tryd.func58, Tryd.ntmps58
  go_wp2_with (go_at_call 91; (with_reducible refine HC.out.mono ?_); rintro e w1 ⟨A, c, rfl, hle, hC, hb⟩)
  go_ret
  exact ⟨_, _, rfl, hle, hC, hb⟩
set_option maxHeartbeats 4000000 in
set_option maxRecDepth 100000 in
theorem chainBorderI_calls (a0 a1 a2 a3 a4 a5 : Int) (A1 : Option Addr) (c1 : Nat) (s : List Int) (A2 : Option Addr) (c2 : Nat) (l : List (List Int)) (r : List Int) (w : World) (hs : CB w A1 s) (hl : CL w A2 l) (hc2 : l.length ≤ c2) (hsl : s.length ≤ 140737488351232) (hll : l.length ≤ 5864062014805) (k : Nat) (htx : impl_texts.f k l = some l) (h : chainB a0 a1 a2 a3 a4 a5 l s = some r) :
    Calls Tryd.prog 22 #[.agg #[.int .i64 a0, .int .i64 a1, .int .i64 a2, .int .u64 a3, .int .u64 a4, .int .u64 a5], .slice A1 s.length c1, .slice A2 l.length c2] w fun e w' => ∃ A c, e = .returned (.slice A r.length c) ∧ r.length ≤ c ∧ CB w' A r ∧ Below w.heap.size w w' := by
  have H1 := Aside0.mk hs
  have H2 := Aside0.mk hl
  have HH := Aside0.mk h
  clear hs hl h
  go_enter Tryd.func22, Tryd.ntmps22
  try go_wp2_with (fail)
  have BK : Aside0 (((w.alloc (.cells #[.int .i64 a0, .int .i64 a1, .int .i64 a2, .int .u64 a3, .int .u64 a4, .int .u64 a5] 24)).drew).heap[w.heap.size]? = some (.cells #[.int .i64 a0, .int .i64 a1, .int .i64 a2, .int .u64 a3, .int .u64 a4, .int .u64 a5] 24 (0, 0))) := ⟨blk_drew (heap_alloc_new w _)⟩
  have HB := Aside0.mk (below_drew1 (below_alloc (Below.refl w.heap.size w) (.cells #[.int .i64 a0, .int .i64 a1, .int .i64 a2, .int .u64 a3, .int .u64 a4, .int .u64 a5] 24)))
  refine start_ (n := 10) (S := fun w' => w'.cell? ⟨w.heap.size, 0, none⟩ = some (.int .i64 a0) ∧ w'.cell? ⟨w.heap.size, 1, none⟩ = some (.int .i64 a1) ∧ w'.cell? ⟨w.heap.size, 2, none⟩ = some (.int .i64 a2) ∧ w'.cell? ⟨w.heap.size, 3, none⟩ = some (.int .u64 a3) ∧ w'.cell? ⟨w.heap.size, 4, none⟩ = some (.int .u64 a4) ∧ w'.cell? ⟨w.heap.size, 5, none⟩ = some (.int .u64 a5)) (ds := []) #[false, false, false, false, false, false, false, false, false, false] (by kernel_rfl) rfl rfl ⟨(blk_cell BK.out 0).trans rfl, (blk_cell BK.out 1).trans rfl, (blk_cell BK.out 2).trans rfl, (blk_cell BK.out 3).trans rfl, (blk_cell BK.out 4).trans rfl, (blk_cell BK.out 5).trans rfl⟩ (fun hHeld => ?_)
  generalize (w.alloc (.cells #[.int .i64 a0, .int .i64 a1, .int .i64 a2, .int .u64 a3, .int .u64 a4, .int .u64 a5] 24)).drew = wz at BK HB hHeld ⊢
  refine pure_ (i := 4) (N := some 11) (v := ?_) (a' := ?_) #[false, false, false, false, true, false, false, false, false, false] rfl rfl (by kernel_rfl) (fun _ _ _ h => h) (Or.inl ⟨by rfl, ?_⟩) ?_ ?_
  rotate_left
  · intro w'
    go_simp
    with_reducible rfl
  rotate_left
  · simp only [Act.put, List.setIfInBounds_toArray, List.set_cons_zero, List.set_cons_succ]
    rfl
  refine pure_ (i := 6) (N := some 13) (v := ?_) (a' := ?_) #[false, false, false, false, true, false, true, false, false, false] rfl rfl (by kernel_rfl) (fun _ _ _ h => h) (Or.inl ⟨by rfl, ?_⟩) ?_ ?_
  rotate_left
  · intro w'
    go_simp
    with_reducible rfl
  rotate_left
  · simp only [Act.put, List.setIfInBounds_toArray, List.set_cons_zero, List.set_cons_succ]
    rfl
  refine take_ (i := 0) (N := some 7) (v := ?_) (a' := ?_) #[true, false, false, false, true, false, true, false, false, false] rfl rfl (by kernel_rfl) (fun _ _ _ h => h) (Or.inl ⟨by rfl, ?_⟩) hHeld ?_ ?_
  rotate_left
  · rintro w' ⟨s0, s1, s2, s3, s4, s5⟩
    go_simp
    with_reducible rfl
  rotate_left
  · simp only [Act.put, List.setIfInBounds_toArray, List.set_cons_zero, List.set_cons_succ]
    rfl
  refine pure_ (i := 1) (N := some 8) (v := ?_) (a' := ?_) #[true, true, false, false, true, false, true, false, false, false] rfl rfl (by kernel_rfl) (fun _ _ _ h => h) (Or.inl ⟨by rfl, ?_⟩) ?_ ?_
  rotate_left
  · intro w'
    go_simp
    with_reducible rfl
  rotate_left
  · simp only [Act.put, List.setIfInBounds_toArray, List.set_cons_zero, List.set_cons_succ]
    rfl
  refine pure_ (i := 2) (N := some 9) (v := ?_) (a' := ?_) #[true, true, true, false, true, false, true, false, false, false] rfl rfl (by kernel_rfl) (fun _ _ _ h => h) (Or.inl ⟨by rfl, ?_⟩) ?_ ?_
  rotate_left
  · intro w'
    go_simp
    with_reducible rfl
  rotate_left
  · simp only [Act.put, List.setIfInBounds_toArray, List.set_cons_zero, List.set_cons_succ]
    rfl
  refine one_ (i := 3) (N := some 10) #[true, true, true, true, true, false, true, false, false, false] rfl rfl (by kernel_rfl) (by decide) (fun K hK => ?_)
  refine event_step rfl (by first | (go_simp; done) | (go_simp; rfl) | (go_simp; exact ⟨rfl, rfl⟩)) ?_
  refine new_lit _ _ ?_
  intro g3 W' hb
  have nBK := Aside0.mk (blk_below BK.out hb)
  have nHB := Aside0.mk (below_step HB.out hb)
  clear BK HB  hb
  have BK := nBK
  have HB := nHB
  clear nBK nHB 
  refine hK.out _ _ ⟨(blk_cell BK.out 0).trans rfl, (blk_cell BK.out 1).trans rfl, (blk_cell BK.out 2).trans rfl, (blk_cell BK.out 3).trans rfl, (blk_cell BK.out 4).trans rfl, (blk_cell BK.out 5).trans rfl⟩ (fun hHeld => ?_)
  clear hK K
  refine norm_ (a' := ?_) ?_ ?_
  rotate_left
  · show Act.put _ (some 10) _ = _
    simp only [Act.put, List.setIfInBounds_toArray, List.set_cons_zero, List.set_cons_succ]
    rfl
  refine one_ (i := 5) (N := some 12) #[true, true, true, true, true, true, true, false, false, false] rfl rfl (by kernel_rfl) (by decide) (fun K hK => ?_)
  refine app_step g3 (.tmp 10) (.tmp 11) rfl rfl rfl rfl rfl (Kd.C_below H1.out HB.out) hsl ?_
  intro B1 d1 W' hd1 hC hb
  have nBK := Aside0.mk (blk_below BK.out hb)
  have nHB := Aside0.mk (below_step HB.out hb)
  clear BK HB  hb
  have BK := nBK
  have HB := nHB
  clear nBK nHB 
  have F1 := Aside0.mk hC
  clear hC
  refine hK.out _ _ ⟨(blk_cell BK.out 0).trans rfl, (blk_cell BK.out 1).trans rfl, (blk_cell BK.out 2).trans rfl, (blk_cell BK.out 3).trans rfl, (blk_cell BK.out 4).trans rfl, (blk_cell BK.out 5).trans rfl⟩ (fun hHeld => ?_)
  clear hK K
  refine norm_ (a' := ?_) ?_ ?_
  rotate_left
  · show Act.put _ (some 12) _ = _
    simp only [Act.put, List.setIfInBounds_toArray, List.set_cons_zero, List.set_cons_succ]
    rfl
  refine one_ (i := 7) (N := some 14) #[true, true, true, true, true, true, true, true, false, false] rfl rfl (by kernel_rfl) (by decide) (fun K hK => ?_)
  refine goes_ Tryd.func48 (by kernel_rfl) rfl #[.slice A2 l.length c2] (by rfl) rfl rfl (by (try simp only [List.map_toArray, List.map_cons, List.map_nil]); first | done | rfl) ?_
  refine (impl_texts.calls _ _ c2 l l _ (Kd.C_below H2.out HB.out) hc2 htx).mono ?_
  rintro e W' ⟨v23, rfl, hS, hb⟩
  refine ⟨_, rfl, ?_⟩
  obtain ⟨B2, d2, rfl, hd2, hC⟩ := Kd.S_reads hS
  clear hS
  have nBK := Aside0.mk (blk_below BK.out hb)
  have nHB := Aside0.mk (below_step HB.out hb)
  have nF1 := Aside0.mk (Kd.C_below F1.out hb)
  clear BK HB F1 hb
  have BK := nBK
  have HB := nHB
  have F1 := nF1
  clear nBK nHB nF1
  have F2 := Aside0.mk hC
  clear hC
  refine hK.out _ _ ⟨(blk_cell BK.out 0).trans rfl, (blk_cell BK.out 1).trans rfl, (blk_cell BK.out 2).trans rfl, (blk_cell BK.out 3).trans rfl, (blk_cell BK.out 4).trans rfl, (blk_cell BK.out 5).trans rfl⟩ (fun hHeld => ?_)
  clear hK K
  refine norm_ (a' := ?_) ?_ ?_
  rotate_left
  · show Act.put _ (some 14) _ = _
    simp only [Act.put, List.setIfInBounds_toArray, List.set_cons_zero, List.set_cons_succ]
    rfl
  refine one_ (i := 8) (N := some 15) #[true, true, true, true, true, true, true, true, true, false] rfl rfl (by kernel_rfl) (by decide) (fun K hK => ?_)
  refine goes_ Tryd.func58 (by kernel_rfl) rfl #[toyV a0 a1 a2 a3 a4 a5, .slice B1 s.length d1, .slice B2 l.length d2] (by rfl) rfl rfl (by (try simp only [List.map_toArray, List.map_cons, List.map_nil]); first | done | rfl) ?_
  refine (doorBorder_calls a0 a1 a2 a3 a4 a5 B1 d1 s B2 d2 l r _ F1.out hd1 F2.out hll HH.out).mono ?_
  rintro e W' ⟨A3, c3, rfl, hl3, hC3, hb⟩
  refine ⟨_, rfl, ?_⟩
  have HC3 := Aside0.mk hC3
  clear hC3
  have nBK := Aside0.mk (blk_below BK.out hb)
  have nHB := Aside0.mk (below_step HB.out hb)
  clear BK HB  hb
  have BK := nBK
  have HB := nHB
  clear nBK nHB 
  refine hK.out _ _ ⟨(blk_cell BK.out 0).trans rfl, (blk_cell BK.out 1).trans rfl, (blk_cell BK.out 2).trans rfl, (blk_cell BK.out 3).trans rfl, (blk_cell BK.out 4).trans rfl, (blk_cell BK.out 5).trans rfl⟩ (fun hHeld => ?_)
  clear hK K
  refine norm_ (a' := ?_) ?_ ?_
  rotate_left
  · show Act.put _ (some 15) _ = _
    simp only [Act.put, List.setIfInBounds_toArray, List.set_cons_zero, List.set_cons_succ]
    rfl
  refine pure_ (i := 9) (N := some 6) (v := ?_) (a' := ?_) #[true, true, true, true, true, true, true, true, true, true] rfl rfl (by kernel_rfl) (fun _ _ _ h => h) (Or.inl ⟨by rfl, ?_⟩) ?_ ?_
  rotate_left
  · intro w'
    go_simp
    with_reducible rfl
  rotate_left
  · simp only [Act.put, List.setIfInBounds_toArray, List.set_cons_zero, List.set_cons_succ]
    rfl
  refine done_ (by kernel_rfl) ?_
  try go_wp2
  go_ret
  exact ⟨_, _, rfl, hl3, HC3.out, HB.out⟩
end Go.Proofs.YtfhcpniibiobgaaDoor.Qf
