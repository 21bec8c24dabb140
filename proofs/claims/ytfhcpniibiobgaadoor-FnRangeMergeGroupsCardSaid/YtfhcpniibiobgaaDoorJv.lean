/- Several texts, joined. -/
import Derived.Test.YtfhcpniibiobgaaDoorJh
import Derived.Test.YtfhcpniibiobgaaDoorJm
namespace Go.Proofs.YtfhcpniibiobgaaDoor.Qf
open Go.RowKit Go.Proofs.YtfhcpniibiobgaaDoorW.PrintWords Go.Proofs.YtfhcpniibiobgaaDoorW.PrintLast Go.Proofs.YtfhcpniibiobgaaDoorW.PrintMore
open Hs (CB CL at_L at_B infoB infoL R_of_blk)

set_option maxHeartbeats 4000000 in
set_option maxRecDepth 100000 in
theorem visitR_calls (lv ix : Int) (A : Option Addr) (c : Nat) (l : List Int) (gs n : Nat) (v : Value) (w : World) (hl : CB w A l) (hll : l.length ≤ 140737488351232) (hg : w.heap[gs]? = some (.cells #[v] 37 (0, 0))) (hgs : gs < w.heap.size) (hr : kV.R 58 w (gs + 1) (fun _ => True) v (List.replicate n ())) (hn : n ≤ 1000) :
    Calls Tryd.prog 71 #[.agg #[.int .u64 lv, .int .u64 ix], .slice A l.length c, .pointer (some ⟨gs, 0, none⟩)] w fun e w' => ∃ v0 v', e = .returned v0 ∧ w'.heap[gs]? = some (.cells #[v'] 37 (0, 0)) ∧ kV.R 58 w' (gs + 1) (fun _ => True) v' (List.replicate (n + 1) ()) ∧ (∀ k, k < w.heap.size → k ≠ gs → some k ≠ v.ownBlock → w'.heap[k]? = w.heap[k]?) ∧ (v'.ownBlock = v.ownBlock ∨ ∃ b, v'.ownBlock = some b ∧ w.heap.size ≤ b) ∧ Below gs w w' := by
  have HL := Aside0.mk hl
  have HV0 := Aside0.mk hr
  have SK0 := Aside0.mk hg
  clear hl hr hg
  go_enter Tryd.func71, Tryd.ntmps71
  try go_wp2_with (fail)
  have BK : Aside0 (((w.alloc (.cells #[.int .u64 lv, .int .u64 ix] 108)).drew).heap[w.heap.size]? = some (.cells #[.int .u64 lv, .int .u64 ix] 108 (0, 0))) := ⟨blk_drew (heap_alloc_new w _)⟩
  have HB := Aside0.mk (below_drew1 (below_alloc (Below.refl w.heap.size w) (.cells #[.int .u64 lv, .int .u64 ix] 108)))
  have SK := Aside0.mk (blk_below SK0.out HB.out)
  have HV := Aside0.mk (kV_below HV0.out HB.out)
  refine start_ (n := 10) (S := fun w' => w'.cell? ⟨gs, 0, none⟩ = some v ∧ w'.cell? ⟨w.heap.size, 0, none⟩ = some (.int .u64 lv) ∧ w'.cell? ⟨w.heap.size, 1, none⟩ = some (.int .u64 ix)) (ds := [9]) #[false, false, false, false, false, false, false, false, false, false] (by kernel_rfl) rfl rfl ⟨(blk_cell SK.out 0).trans rfl, (blk_cell BK.out 0).trans rfl, (blk_cell BK.out 1).trans rfl⟩ (fun hHeld => ?_)
  generalize (w.alloc (.cells #[.int .u64 lv, .int .u64 ix] 108)).drew = wz at BK SK HB HV hHeld ⊢
  refine pure_ (i := 4) (N := some 9) (v := ?_) (a' := ?_) #[false, false, false, false, true, false, false, false, false, false] rfl rfl (by kernel_rfl) (fun _ _ _ h => h) (Or.inl ⟨by rfl, ?_⟩) ?_ ?_
  rotate_left
  · intro w'
    go_simp
    with_reducible rfl
  rotate_left
  · simp only [Act.put, List.setIfInBounds_toArray, List.set_cons_zero, List.set_cons_succ]
    rfl
  refine take_ (i := 0) (N := some 5) (v := ?_) (a' := ?_) #[true, false, false, false, true, false, false, false, false, false] rfl rfl (by kernel_rfl) (fun _ _ _ h => h) (Or.inl ⟨by rfl, ?_⟩) hHeld ?_ ?_
  rotate_left
  · rintro w' ⟨s0, s1, s2⟩
    go_simp
    with_reducible rfl
  rotate_left
  · simp only [Act.put, List.setIfInBounds_toArray, List.set_cons_zero, List.set_cons_succ]
    rfl
  refine take_ (i := 1) (N := some 6) (v := ?_) (a' := ?_) #[true, true, false, false, true, false, false, false, false, false] rfl rfl (by kernel_rfl) (fun _ _ _ h => h) (Or.inl ⟨by rfl, ?_⟩) hHeld ?_ ?_
  rotate_left
  · rintro w' ⟨s0, s1, s2⟩
    go_simp
    with_reducible rfl
  rotate_left
  · simp only [Act.put, List.setIfInBounds_toArray, List.set_cons_zero, List.set_cons_succ]
    rfl
  refine two_ (i := 2) (j := 3) (Ni := some 7) (Nj := some 8) #[true, true, true, false, true, false, false, false, false, false] #[true, true, false, true, true, false, false, false, false, false] rfl rfl rfl rfl (by kernel_rfl) (by decide) (by decide) (fun K hK => ?_) (fun K hK => ?_)
  · skip
    refine goes_ Tryd.func57 (by kernel_rfl) rfl #[.agg #[.int .u64 lv, .int .u64 ix]] (by rfl) rfl rfl (by (try simp only [List.map_toArray, List.map_cons, List.map_nil]); first | done | rfl) ?_
    refine (impl_fromNode.calls lv ix lv ix _ rfl).mono ?_
    rintro e W' ⟨rfl, hb⟩
    refine ⟨_, rfl, ?_⟩
    have nBK := Aside0.mk (blk_below BK.out hb)
    have nSK := Aside0.mk (blk_below SK.out hb)
    have nHB := Aside0.mk (below_step HB.out hb)
    have nHV := Aside0.mk (kV_below HV.out hb)
    clear BK SK HB HV  hb
    have BK := nBK
    have SK := nSK
    have HB := nHB
    have HV := nHV
    clear nBK nSK nHB nHV 
    refine hK.out _ _ ⟨(blk_cell SK.out 0).trans rfl, (blk_cell BK.out 0).trans rfl, (blk_cell BK.out 1).trans rfl⟩ (fun hHeld => ?_)
    clear hK K
    refine norm_ (a' := ?_) ?_ ?_
    rotate_left
    · show Act.put _ (some 7) _ = _
      simp only [Act.put, List.setIfInBounds_toArray, List.set_cons_zero, List.set_cons_succ]
      rfl
    refine one_ (i := 3) (N := some 8) #[true, true, true, true, true, false, false, false, false, false] rfl rfl (by kernel_rfl) (by decide) (fun K hK => ?_)
    refine event_step rfl (by first | (go_simp; done) | (go_simp; rfl) | (go_simp; exact ⟨rfl, rfl⟩)) ?_
    refine new_lit _ _ ?_
    intro g3 W' hb
    have nBK := Aside0.mk (blk_below BK.out hb)
    have nSK := Aside0.mk (blk_below SK.out hb)
    have nHB := Aside0.mk (below_step HB.out hb)
    have nHV := Aside0.mk (kV_below HV.out hb)
    clear BK SK HB HV  hb
    have BK := nBK
    have SK := nSK
    have HB := nHB
    have HV := nHV
    clear nBK nSK nHB nHV 
    refine hK.out _ _ ⟨(blk_cell SK.out 0).trans rfl, (blk_cell BK.out 0).trans rfl, (blk_cell BK.out 1).trans rfl⟩ (fun hHeld => ?_)
    clear hK K
    refine norm_ (a' := ?_) ?_ ?_
    rotate_left
    · show Act.put _ (some 8) _ = _
      simp only [Act.put, List.setIfInBounds_toArray, List.set_cons_zero, List.set_cons_succ]
      rfl
    refine one_ (i := 5) (N := some 10) #[true, true, true, true, true, true, false, false, false, false] rfl rfl (by kernel_rfl) (by decide) (fun K hK => ?_)
    refine app_step g3 (.tmp 8) (.tmp 9) rfl rfl rfl rfl rfl (Kd.C_below HL.out HB.out) hll ?_
    intro B d W' hd hC hb
    have nBK := Aside0.mk (blk_below BK.out hb)
    have nSK := Aside0.mk (blk_below SK.out hb)
    have nHB := Aside0.mk (below_step HB.out hb)
    have nHV := Aside0.mk (kV_below HV.out hb)
    clear BK SK HB HV  hb
    have BK := nBK
    have SK := nSK
    have HB := nHB
    have HV := nHV
    clear nBK nSK nHB nHV 
    clear hC
    refine hK.out _ _ ⟨(blk_cell SK.out 0).trans rfl, (blk_cell BK.out 0).trans rfl, (blk_cell BK.out 1).trans rfl⟩ (fun hHeld => ?_)
    clear hK K
    refine norm_ (a' := ?_) ?_ ?_
    rotate_left
    · show Act.put _ (some 10) _ = _
      simp only [Act.put, List.setIfInBounds_toArray, List.set_cons_zero, List.set_cons_succ]
      rfl
    refine pure_ (i := 6) (N := some 11) (v := ?_) (a' := ?_) #[true, true, true, true, true, true, true, false, false, false] rfl rfl (by kernel_rfl) (fun _ _ _ h => h) (Or.inl ⟨by rfl, ?_⟩) ?_ ?_
    rotate_left
    · intro w'
      go_simp
      with_reducible rfl
    rotate_left
    · simp only [Act.put, List.setIfInBounds_toArray, List.set_cons_zero, List.set_cons_succ]
      rfl
    refine one_ (i := 7) (N := some 12) #[true, true, true, true, true, true, true, true, false, false] rfl rfl (by kernel_rfl) (by decide) (fun K hK => ?_)
    refine event_step rfl (v := .slice (some ⟨_, 0, none⟩) 1 1) (w1 := World.alloc _ (.cells #[.int .u64 lv, .int .u64 ix, .slice B l.length d] 58)) (by first | (go_simp; done) | (go_simp; rfl) | (go_simp; exact ⟨rfl, rfl⟩)) ?_
    rename World => W2
    have hb := below_alloc (Below.refl W2.heap.size W2) (.cells #[.int .u64 lv, .int .u64 ix, .slice B l.length d] 58)
    refine hK.out _ _ ⟨(blk_cell (blk_below SK.out hb) 0).trans rfl, (blk_cell (blk_below BK.out hb) 0).trans rfl, (blk_cell (blk_below BK.out hb) 1).trans rfl⟩ (fun hHeld => ?_)
    clear hK K
    refine norm_ (a' := ?_) ?_ ?_
    rotate_left
    · show Act.put _ (some 12) _ = _
      simp only [Act.put, List.setIfInBounds_toArray, List.set_cons_zero, List.set_cons_succ]
      rfl
    refine one_ (i := 8) (N := some 13) #[true, true, true, true, true, true, true, true, true, false] rfl rfl (by kernel_rfl) (by decide) (fun K hK => ?_)
    refine Kd.R_append_step kV (w0 := w) (gs + 1) rfl (.tmp 5) (.tmp 12) 37 58 (.agg #[.int .u64 0, .int .u64 0, .slice none 0 0]) 40 rfl Tryd.underlying37 infoV rfl (by decide) (by omega) v (List.replicate n ()) () [.int .u64 lv, .int .u64 ix, .slice B l.length d] (fun _ => True) (fun _ => False) rfl rfl ⟨rfl, by simp [Value.oneCell']⟩ (fun _ h => h.elim) (fun _ _ => trivial) HV.out (Below.mono HB.out (by omega)) (Nat.le_trans (by omega) (below_size HB.out)) (by simp; omega) ?_
    intro v1 w1 hR1 hB1 hG1 hA1
    have hlt := below_size HB.out
    have SK1 := Aside0.mk ((hG1.block gs (by omega) (fun h => by have := (kV_lt HV0.out gs h.symm).1; omega)).trans SK.out)
    have BK1 := Aside0.mk ((hG1.block w.heap.size (lt_of_block BK.out) (fun h => by have := (kV_lt HV0.out w.heap.size h.symm).2; omega)).trans BK.out)
    have K1 : Aside0 (∀ k, k < w.heap.size → k ≠ gs → some k ≠ v.ownBlock → w1.heap[k]? = w.heap[k]?) := ⟨fun k hk _ hv => (hG1.block k (by omega) hv).trans (HB.out.block k hk)⟩
    have A1 : Aside0 (v1.ownBlock = v.ownBlock ∨ ∃ b, v1.ownBlock = some b ∧ w.heap.size ≤ b) := ⟨hA1.imp id fun ⟨b, h1, h2⟩ => ⟨b, h1, Nat.le_trans hlt h2⟩⟩
    have B1 := Aside0.mk (Below.mono hB1 (Nat.le_succ gs))
    have R1 := Aside0.mk hR1
    clear hG1 hA1 hB1 hR1 SK BK HB HV hHeld
    refine hK.out _ _ ⟨(blk_cell SK1.out 0).trans rfl, (blk_cell BK1.out 0).trans rfl, (blk_cell BK1.out 1).trans rfl⟩ (fun hHeld => ?_)
    clear hK K
    refine norm_ (a' := ?_) ?_ ?_
    rotate_left
    · show Act.put _ (some 13) _ = _
      simp only [Act.put, List.setIfInBounds_toArray, List.set_cons_zero, List.set_cons_succ]
      rfl
    obtain ⟨Av, nv, cv, rfl⟩ := kV_slice R1.out
    have hc := cell_of_one SK1.out
    have hf := free_of_one SK1.out
    refine last_ (i := 9) (N := none) #[true, true, true, true, true, true, true, true, true, true] rfl rfl (by kernel_rfl) (by simp) (fun K hK => ?_)
    refine store_step rfl (w1 := w1.setCell ⟨gs, 0, none⟩ (.slice Av nv cv)) (by first | (go_simp; done) | (go_simp; rfl) | (go_simp; exact ⟨rfl, rfl⟩)) ?_
    refine hK.out _ _ ?_
    clear hK K
    refine norm_ (a' := ?_) ?_ ?_
    rotate_left
    · show Act.put _ none _ = _
      first | rfl | (simp only [Act.put]; rfl) | simp only [Act.put]
    refine done_ (by kernel_rfl) ?_
    go_end0
    exact ⟨_, _, rfl, one_setCell SK1.out, (by rw [List.replicate_succ']; exact kV_move R1.out (fun k hk => Below.heap_setCell _ _ _ k (by have := (kV_lt R1.out k hk).1; simp; omega))), fun k h1 h2 h3 => (Below.heap_setCell _ _ _ k h2).trans (K1.out k h1 h2 h3), A1.out, Below.setCell B1.out (by simp) _⟩
  · skip
    refine event_step rfl (by first | (go_simp; done) | (go_simp; rfl) | (go_simp; exact ⟨rfl, rfl⟩)) ?_
    refine new_lit _ _ ?_
    intro g3 W' hb
    have nBK := Aside0.mk (blk_below BK.out hb)
    have nSK := Aside0.mk (blk_below SK.out hb)
    have nHB := Aside0.mk (below_step HB.out hb)
    have nHV := Aside0.mk (kV_below HV.out hb)
    clear BK SK HB HV  hb
    have BK := nBK
    have SK := nSK
    have HB := nHB
    have HV := nHV
    clear nBK nSK nHB nHV 
    refine hK.out _ _ ⟨(blk_cell SK.out 0).trans rfl, (blk_cell BK.out 0).trans rfl, (blk_cell BK.out 1).trans rfl⟩ (fun hHeld => ?_)
    clear hK K
    refine norm_ (a' := ?_) ?_ ?_
    rotate_left
    · show Act.put _ (some 8) _ = _
      simp only [Act.put, List.setIfInBounds_toArray, List.set_cons_zero, List.set_cons_succ]
      rfl
    refine one_ (i := 2) (N := some 7) #[true, true, true, true, true, false, false, false, false, false] rfl rfl (by kernel_rfl) (by decide) (fun K hK => ?_)
    refine goes_ Tryd.func57 (by kernel_rfl) rfl #[.agg #[.int .u64 lv, .int .u64 ix]] (by rfl) rfl rfl (by (try simp only [List.map_toArray, List.map_cons, List.map_nil]); first | done | rfl) ?_
    refine (impl_fromNode.calls lv ix lv ix _ rfl).mono ?_
    rintro e W' ⟨rfl, hb⟩
    refine ⟨_, rfl, ?_⟩
    have nBK := Aside0.mk (blk_below BK.out hb)
    have nSK := Aside0.mk (blk_below SK.out hb)
    have nHB := Aside0.mk (below_step HB.out hb)
    have nHV := Aside0.mk (kV_below HV.out hb)
    clear BK SK HB HV  hb
    have BK := nBK
    have SK := nSK
    have HB := nHB
    have HV := nHV
    clear nBK nSK nHB nHV 
    refine hK.out _ _ ⟨(blk_cell SK.out 0).trans rfl, (blk_cell BK.out 0).trans rfl, (blk_cell BK.out 1).trans rfl⟩ (fun hHeld => ?_)
    clear hK K
    refine norm_ (a' := ?_) ?_ ?_
    rotate_left
    · show Act.put _ (some 7) _ = _
      simp only [Act.put, List.setIfInBounds_toArray, List.set_cons_zero, List.set_cons_succ]
      rfl
    refine one_ (i := 5) (N := some 10) #[true, true, true, true, true, true, false, false, false, false] rfl rfl (by kernel_rfl) (by decide) (fun K hK => ?_)
    refine app_step g3 (.tmp 8) (.tmp 9) rfl rfl rfl rfl rfl (Kd.C_below HL.out HB.out) hll ?_
    intro B d W' hd hC hb
    have nBK := Aside0.mk (blk_below BK.out hb)
    have nSK := Aside0.mk (blk_below SK.out hb)
    have nHB := Aside0.mk (below_step HB.out hb)
    have nHV := Aside0.mk (kV_below HV.out hb)
    clear BK SK HB HV  hb
    have BK := nBK
    have SK := nSK
    have HB := nHB
    have HV := nHV
    clear nBK nSK nHB nHV 
    clear hC
    refine hK.out _ _ ⟨(blk_cell SK.out 0).trans rfl, (blk_cell BK.out 0).trans rfl, (blk_cell BK.out 1).trans rfl⟩ (fun hHeld => ?_)
    clear hK K
    refine norm_ (a' := ?_) ?_ ?_
    rotate_left
    · show Act.put _ (some 10) _ = _
      simp only [Act.put, List.setIfInBounds_toArray, List.set_cons_zero, List.set_cons_succ]
      rfl
    refine pure_ (i := 6) (N := some 11) (v := ?_) (a' := ?_) #[true, true, true, true, true, true, true, false, false, false] rfl rfl (by kernel_rfl) (fun _ _ _ h => h) (Or.inl ⟨by rfl, ?_⟩) ?_ ?_
    rotate_left
    · intro w'
      go_simp
      with_reducible rfl
    rotate_left
    · simp only [Act.put, List.setIfInBounds_toArray, List.set_cons_zero, List.set_cons_succ]
      rfl
    refine one_ (i := 7) (N := some 12) #[true, true, true, true, true, true, true, true, false, false] rfl rfl (by kernel_rfl) (by decide) (fun K hK => ?_)
    refine event_step rfl (v := .slice (some ⟨_, 0, none⟩) 1 1) (w1 := World.alloc _ (.cells #[.int .u64 lv, .int .u64 ix, .slice B l.length d] 58)) (by first | (go_simp; done) | (go_simp; rfl) | (go_simp; exact ⟨rfl, rfl⟩)) ?_
    rename World => W2
    have hb := below_alloc (Below.refl W2.heap.size W2) (.cells #[.int .u64 lv, .int .u64 ix, .slice B l.length d] 58)
    refine hK.out _ _ ⟨(blk_cell (blk_below SK.out hb) 0).trans rfl, (blk_cell (blk_below BK.out hb) 0).trans rfl, (blk_cell (blk_below BK.out hb) 1).trans rfl⟩ (fun hHeld => ?_)
    clear hK K
    refine norm_ (a' := ?_) ?_ ?_
    rotate_left
    · show Act.put _ (some 12) _ = _
      simp only [Act.put, List.setIfInBounds_toArray, List.set_cons_zero, List.set_cons_succ]
      rfl
    refine one_ (i := 8) (N := some 13) #[true, true, true, true, true, true, true, true, true, false] rfl rfl (by kernel_rfl) (by decide) (fun K hK => ?_)
    refine Kd.R_append_step kV (w0 := w) (gs + 1) rfl (.tmp 5) (.tmp 12) 37 58 (.agg #[.int .u64 0, .int .u64 0, .slice none 0 0]) 40 rfl Tryd.underlying37 infoV rfl (by decide) (by omega) v (List.replicate n ()) () [.int .u64 lv, .int .u64 ix, .slice B l.length d] (fun _ => True) (fun _ => False) rfl rfl ⟨rfl, by simp [Value.oneCell']⟩ (fun _ h => h.elim) (fun _ _ => trivial) HV.out (Below.mono HB.out (by omega)) (Nat.le_trans (by omega) (below_size HB.out)) (by simp; omega) ?_
    intro v1 w1 hR1 hB1 hG1 hA1
    have hlt := below_size HB.out
    have SK1 := Aside0.mk ((hG1.block gs (by omega) (fun h => by have := (kV_lt HV0.out gs h.symm).1; omega)).trans SK.out)
    have BK1 := Aside0.mk ((hG1.block w.heap.size (lt_of_block BK.out) (fun h => by have := (kV_lt HV0.out w.heap.size h.symm).2; omega)).trans BK.out)
    have K1 : Aside0 (∀ k, k < w.heap.size → k ≠ gs → some k ≠ v.ownBlock → w1.heap[k]? = w.heap[k]?) := ⟨fun k hk _ hv => (hG1.block k (by omega) hv).trans (HB.out.block k hk)⟩
    have A1 : Aside0 (v1.ownBlock = v.ownBlock ∨ ∃ b, v1.ownBlock = some b ∧ w.heap.size ≤ b) := ⟨hA1.imp id fun ⟨b, h1, h2⟩ => ⟨b, h1, Nat.le_trans hlt h2⟩⟩
    have B1 := Aside0.mk (Below.mono hB1 (Nat.le_succ gs))
    have R1 := Aside0.mk hR1
    clear hG1 hA1 hB1 hR1 SK BK HB HV hHeld
    refine hK.out _ _ ⟨(blk_cell SK1.out 0).trans rfl, (blk_cell BK1.out 0).trans rfl, (blk_cell BK1.out 1).trans rfl⟩ (fun hHeld => ?_)
    clear hK K
    refine norm_ (a' := ?_) ?_ ?_
    rotate_left
    · show Act.put _ (some 13) _ = _
      simp only [Act.put, List.setIfInBounds_toArray, List.set_cons_zero, List.set_cons_succ]
      rfl
    obtain ⟨Av, nv, cv, rfl⟩ := kV_slice R1.out
    have hc := cell_of_one SK1.out
    have hf := free_of_one SK1.out
    refine last_ (i := 9) (N := none) #[true, true, true, true, true, true, true, true, true, true] rfl rfl (by kernel_rfl) (by simp) (fun K hK => ?_)
    refine store_step rfl (w1 := w1.setCell ⟨gs, 0, none⟩ (.slice Av nv cv)) (by first | (go_simp; done) | (go_simp; rfl) | (go_simp; exact ⟨rfl, rfl⟩)) ?_
    refine hK.out _ _ ?_
    clear hK K
    refine norm_ (a' := ?_) ?_ ?_
    rotate_left
    · show Act.put _ none _ = _
      first | rfl | (simp only [Act.put]; rfl) | simp only [Act.put]
    refine done_ (by kernel_rfl) ?_
    go_end0
    exact ⟨_, _, rfl, one_setCell SK1.out, (by rw [List.replicate_succ']; exact kV_move R1.out (fun k hk => Below.heap_setCell _ _ _ k (by have := (kV_lt R1.out k hk).1; simp; omega))), fun k h1 h2 h3 => (Below.heap_setCell _ _ _ k h2).trans (K1.out k h1 h2 h3), A1.out, Below.setCell B1.out (by simp) _⟩
/-- A visit: what is shown goes behind what was seen. -/
theorem visitR {a0 a1 a2 a3 a4 a5 : Int} {w0 : World} {gr gf gs : Nat} {S : Nat → Prop} {w : World} {b e : Int} {vr vs : Value} {l : List (List Int)} {n : Nat} (h : RSt a0 a1 a2 a3 a4 a5 w0 gr gf gs S w b e vr vs l n) (lv ix : Int) (A : Option Addr) (c : Nat) (s : List Int) (hs : Safe S w A s) (hl : s.length ≤ 140737488351232) (hn : n ≤ 1000) :
    Calls Tryd.prog 71 #[.agg #[.int .u64 lv, .int .u64 ix], .slice A s.length c, .pointer (some ⟨gs, 0, none⟩)] w fun en w' => ∃ v0 vs' S', en = .returned v0 ∧ RSt a0 a1 a2 a3 a4 a5 w0 gr gf gs S' w' b e vr vs' l (n + 1) ∧ Grows S S' w ∧ KeptS S' w w' :=
  (visitR_calls lv ix A c s gs n vs w hs.bytes hl h.seen (h.top _ h.sseen) h.srow hn).mono fun _ w' ⟨v0, v', h1, h2, h3, h4, h5, h6⟩ => by
    have hsz : w.heap.size ≤ w'.heap.size := h6.size
    have hgs : w0.heap.size ≤ gs := h.base _ h.sseen
    have hg : Grows S (fun k => S k ∨ v'.ownBlock = some k) w := ⟨fun k hk => .inl hk, fun k hk => by
      rcases hk with hk | hk
      · exact .inl hk
      · rcases h5 with h5 | ⟨b', h5, h7⟩
        · exact .inl (h.sown k (h5 ▸ hk))
        · rw [h5] at hk
          injection hk with hk
          exact .inr (by omega)⟩
    have hk : KeptS (fun k => S k ∨ v'.ownBlock = some k) w w' := ⟨hsz, fun k hk hS => h4 k hk (fun he => hS (.inl (he ▸ h.sseen))) (fun he => hS (.inl (h.sown k he.symm)))⟩
    have hgr : w'.heap[gr]? = w.heap[gr]? := h4 gr (h.top _ h.sobj) h.ne_gs (Kd.R_ne h.srow h.obj (by decide))
    refine ⟨v0, v', _, h1, ?_, hg, hk⟩
    exact {
      below := below_sz' h.below (h6.mono hgs)
      base := fun k hk => by
        rcases hg.2 k hk with h8 | h8
        · exact h.base k h8
        · exact Nat.le_trans h.below.size h8
      top := fun k hk => by
        rcases hk with hk | hk
        · exact Nat.lt_of_lt_of_le (h.top k hk) hsz
        · exact (kV_lt h3 k hk).2
      fac := (h4 gf (lt_of_block h.fac) (fun he => h.nfac (he ▸ h.sseen)) (fun he => h.nfac (h.sown gf he.symm))).trans h.fac
      nfac := fun hk => by
        rcases hg.2 gf hk with h8 | h8
        · exact h.nfac h8
        · have := lt_of_block h.fac
          omega
      obj := hgr.trans h.obj
      sobj := .inl h.sobj
      rows := h.rows.step hg hk fun q hq => h4 q (Kd.R_lt h.rows.row q hq) (h.rown q hq).1 (h.rown q hq).2.1
      seen := h2
      sseen := .inl h.sseen
      srow := h3
      sown := fun k hk => .inr hk }
end Go.Proofs.YtfhcpniibiobgaaDoor.Qf
namespace Go.Proofs.YtfhcpniibiobgaaDoor.Qf
open Go.RowKit Go.Proofs.YtfhcpniibiobgaaDoorW.PrintWords Go.Proofs.YtfhcpniibiobgaaDoorW.PrintLast Go.Proofs.YtfhcpniibiobgaaDoorW.PrintMore
open Hs (CB CL at_L at_B infoB infoL R_of_blk)
open Go.Proofs.YtfhcpniibiobgaaDoor.M (pc pc_add)

/-- The rest of the row, read in a world where its block is as it was. -/
theorem lreads {S : Nat → Prop} {w w1 : World} {A : Option Addr} {M : List (List Int)} (h : LRow S w A M) (z c : Nat) (hz : z ≤ M.length) (hc : M.length ≤ c) (hl : M.length ≤ 1000) (hk : ∀ ad, A = some ad → ¬ S ad.block → ad.block < w.heap.size → w1.heap[ad.block]? = w.heap[ad.block]?) :
    ReadsRow (fun (x : List Int) cs => ∃ A' c', cs = [.slice A' x.length c'] ∧ x.length ≤ c' ∧ Safe S w A' x) 1 w1 (if c = z then A else A.map (·.add (z * 1))) (M.length - z) (M.drop z) := by
  refine ⟨by rw [List.length_drop], by omega, fun hp => ?_⟩
  obtain ⟨ad, _, _, ea, _⟩ := h.get z (by omega)
  subst ea
  rw [if_neg (by omega)]
  refine ⟨ad.add (z * 1), rfl, fun j p hj => ?_⟩
  rw [List.getElem?_drop] at hj
  obtain ⟨hjl, hjp⟩ := List.getElem?_eq_some_iff.1 hj
  have hget : M.getD (z + j) [] = p := by rw [List.getD_eq_getElem?_getD, hj]; rfl
  obtain ⟨ad', A0, c0, e1, e2, e3, e4, e5, e6⟩ := h.get (z + j) hjl
  injection e1 with e1
  subst e1
  rw [hget] at e2 e3 e4
  refine ⟨_, rfl, ⟨A0, c0, rfl, e3, e4⟩, fun i u hi => ?_⟩
  rcases i with _ | i
  · obtain rfl := Option.some.inj hi
    rw [← e2, Nat.mul_one, Nat.mul_one, Nat.add_zero, Addr.add_add]
    unfold World.cell?
    rw [show (ad.add (z + j)).block = ad.block by unfold Addr.add; split <;> rfl, hk ad rfl e6 e5]
  · simp at hi
/-- What bits count. -/
theorem pc_step (x j : Nat) : pc (j + 1) x = pc j x + x / 2 ^ j % 2 := by rw [pc_add j 1 x]; rfl
theorem pc_le' (x j : Nat) : pc j x ≤ j := by
  induction j with
  | zero => exact Nat.le_refl _
  | succ j ih =>
    rw [pc_step]
    omega
theorem pc_both (x j n : Nat) (h : j ≤ n) : pc j x ≤ pc n x ∧ j - pc j x ≤ n - pc n x := by
  obtain ⟨d, rfl⟩ : ∃ d, n = j + d := ⟨n - j, by omega⟩
  have h1 := pc_le' (x / 2 ^ j) d
  have h2 := pc_le' x j
  rw [pc_add]
  omega
end Go.Proofs.YtfhcpniibiobgaaDoor.Qf
