/- Several texts, joined. -/
import Derived.Test.YtfhcpniibiobgaaDoorJk
import Derived.Test.YtfhcpniibiobgaaDoorJm
import Derived.Deep.RegionHeld3
namespace Go.Proofs.YtfhcpniibiobgaaDoor.Qf
open Go.RowKit Go.Proofs.YtfhcpniibiobgaaDoorW.PrintWords Go.Proofs.YtfhcpniibiobgaaDoorW.PrintLast Go.Proofs.YtfhcpniibiobgaaDoorW.PrintMore
open Hs (CB CL at_L at_B infoB infoL R_of_blk)
set_option maxHeartbeats 4000000 in
set_option maxRecDepth 100000 in
theorem visitR_calls (lv ix : Int) (A : Option Addr) (c : Nat) (l : List Int) (gs n : Nat) (v : Value) (w : World) (hl : CB w A l) (hll : l.length ≤ 140737488351232) (hg : w.heap[gs]? = some (.cells #[v] 37 (0, 0))) (hgs : gs < w.heap.size) (hr : kV.R 58 w (gs + 1) (fun _ => True) v (List.replicate n ())) (hn : n ≤ 1000) :
    Calls Tryd.prog 71 #[.agg #[.int .u64 lv, .int .u64 ix], .slice A l.length c, .pointer (some ⟨gs, 0, none⟩)] w fun e w' => ∃ v0 v', e = .returned v0 ∧ w'.heap[gs]? = some (.cells #[v'] 37 (0, 0)) ∧ kV.R 58 w' (gs + 1) (fun _ => True) v' (List.replicate (n + 1) ()) ∧ (∀ k, k < w.heap.size → k ≠ gs → some k ≠ v.ownBlock → w'.heap[k]? = w.heap[k]?) ∧ (v'.ownBlock = v.ownBlock ∨ ∃ b, v'.ownBlock = some b ∧ w.heap.size ≤ b) ∧ Below gs w w' := by
  have HL := aq hl
  have HV0 := aq hr
  have SK0 := aq hg
  clear hl hr hg
  go_enter Tryd.func71, Tryd.ntmps71
  try go_wp2_with (fail)
  have BK : Aside0 (((w.alloc (.cells #[.int .u64 lv, .int .u64 ix] 108)).drew).heap[w.heap.size]? = some (.cells #[.int .u64 lv, .int .u64 ix] 108 (0, 0))) := ⟨blk_drew (heap_alloc_new w _)⟩
  have HB := aq (below_drew1 (below_alloc (Below.refl w.heap.size w) (.cells #[.int .u64 lv, .int .u64 ix] 108)))
  have SK := aq (blk_below SK0.out HB.out)
  have HV := aq (kV_below HV0.out HB.out)
  refine start_ (n := 10) (S := fun w' => w'.cell? ⟨gs, 0, none⟩ = some v ∧ w'.cell? ⟨w.heap.size, 0, none⟩ = some (.int .u64 lv) ∧ w'.cell? ⟨w.heap.size, 1, none⟩ = some (.int .u64 ix)) (ds := [9]) #[false, false, false, false, false, false, false, false, false, false] (by kernel_rfl) rfl rfl ⟨bc SK 0, bc BK 0, bc BK 1⟩ (fun hHeld => ?_)
  generalize (w.alloc (.cells #[.int .u64 lv, .int .u64 ix] 108)).drew = wz at BK SK HB HV hHeld ⊢
  refine pu 4 9 ?_
  refine ta 0 5 hHeld ?_
  refine ta 1 6 hHeld ?_
  refine two_ (i := 2) (j := 3) (Ni := some 7) (Nj := some 8) #[true, true, true, false, true, false, false, false, false, false] #[true, true, false, true, true, false, false, false, false, false] rfl rfl rfl rfl (by kernel_rfl) (by decide) (by decide) (fun K hK => ?_) (fun K hK => ?_)
  · skip
    refine gS Tryd.func57 #[.agg #[.int .u64 lv, .int .u64 ix]] ?_
    refine (impl_fromNode.calls lv ix lv ix _ rfl).mono ?_
    rintro e W' ⟨rfl, hb⟩
    refine ⟨_, rfl, ?_⟩
    have nBK := aq (blk_below BK.out hb)
    have nSK := aq (blk_below SK.out hb)
    have nHB := aq (below_step HB.out hb)
    have nHV := aq (kV_below HV.out hb)
    clear BK SK HB HV  hb
    have BK := nBK
    have SK := nSK
    have HB := nHB
    have HV := nHV
    clear nBK nSK nHB nHV 
    refine hK.out _ _ ⟨bc SK 0, bc BK 0, bc BK 1⟩ (fun hHeld => ?_)
    clear hK K
    refine nm ?_
    refine on1 3 8 fun K hK => ?_
    refine event_step rfl (by first | (go_simp; done) | (go_simp; rfl) | (go_simp; exact ⟨rfl, rfl⟩)) ?_
    refine new_lit _ _ ?_
    intro g3 W' hb
    have nBK := aq (blk_below BK.out hb)
    have nSK := aq (blk_below SK.out hb)
    have nHB := aq (below_step HB.out hb)
    have nHV := aq (kV_below HV.out hb)
    clear BK SK HB HV  hb
    have BK := nBK
    have SK := nSK
    have HB := nHB
    have HV := nHV
    clear nBK nSK nHB nHV 
    refine hK.out _ _ ⟨bc SK 0, bc BK 0, bc BK 1⟩ (fun hHeld => ?_)
    clear hK K
    refine nm ?_
    refine on1 5 10 fun K hK => ?_
    refine app_step g3 (.tmp 8) (.tmp 9) rfl rfl rfl rfl rfl (Kd.C_below HL.out HB.out) hll ?_
    intro B d W' hd hC hb
    have nBK := aq (blk_below BK.out hb)
    have nSK := aq (blk_below SK.out hb)
    have nHB := aq (below_step HB.out hb)
    have nHV := aq (kV_below HV.out hb)
    clear BK SK HB HV  hb
    have BK := nBK
    have SK := nSK
    have HB := nHB
    have HV := nHV
    clear nBK nSK nHB nHV 
    clear hC
    refine hK.out _ _ ⟨bc SK 0, bc BK 0, bc BK 1⟩ (fun hHeld => ?_)
    clear hK K
    refine nm ?_
    refine pu 6 11 ?_
    refine on1 7 12 fun K hK => ?_
    refine event_step rfl (v := .slice (some ⟨_, 0, none⟩) 1 1) (w1 := World.alloc _ (.cells #[.int .u64 lv, .int .u64 ix, .slice B l.length d] 58)) (by first | (go_simp; done) | (go_simp; rfl) | (go_simp; exact ⟨rfl, rfl⟩)) ?_
    rename World => W2
    have hb := below_alloc (Below.refl W2.heap.size W2) (.cells #[.int .u64 lv, .int .u64 ix, .slice B l.length d] 58)
    refine hK.out _ _ ⟨(blk_cell (blk_below SK.out hb) 0).trans rfl, (blk_cell (blk_below BK.out hb) 0).trans rfl, (blk_cell (blk_below BK.out hb) 1).trans rfl⟩ (fun hHeld => ?_)
    clear hK K
    refine nm ?_
    refine on1 8 13 fun K hK => ?_
    refine Kd.R_append_step kV (w0 := w) (gs + 1) rfl (.tmp 5) (.tmp 12) 37 58 (.agg #[.int .u64 0, .int .u64 0, .slice none 0 0]) 40 rfl Tryd.underlying37 infoV rfl (by decide) (by omega) v (List.replicate n ()) () [.int .u64 lv, .int .u64 ix, .slice B l.length d] (fun _ => True) (fun _ => False) rfl rfl ⟨rfl, by simp [Value.oneCell']⟩ (fun _ h => h.elim) (fun _ _ => trivial) HV.out (Below.mono HB.out (by omega)) (Nat.le_trans (by omega) (below_size HB.out)) (by simp; omega) ?_
    intro v1 w1 hR1 hB1 hG1 hA1
    have hlt := below_size HB.out
    have SK1 := aq ((hG1.block gs (by omega) (fun h => by have := (kV_lt HV0.out gs h.symm).1; omega)).trans SK.out)
    have BK1 := aq ((hG1.block w.heap.size (lt_of_block BK.out) (fun h => by have := (kV_lt HV0.out w.heap.size h.symm).2; omega)).trans BK.out)
    have K1 : Aside0 (∀ k, k < w.heap.size → k ≠ gs → some k ≠ v.ownBlock → w1.heap[k]? = w.heap[k]?) := ⟨fun k hk _ hv => (hG1.block k (by omega) hv).trans (HB.out.block k hk)⟩
    have A1 : Aside0 (v1.ownBlock = v.ownBlock ∨ ∃ b, v1.ownBlock = some b ∧ w.heap.size ≤ b) := ⟨hA1.imp id fun ⟨b, h1, h2⟩ => ⟨b, h1, Nat.le_trans hlt h2⟩⟩
    have B1 := aq (Below.mono hB1 (Nat.le_succ gs))
    have R1 := aq hR1
    clear hG1 hA1 hB1 hR1 SK BK HB HV hHeld
    refine hK.out _ _ ⟨bc SK1 0, bc BK1 0, bc BK1 1⟩ (fun hHeld => ?_)
    clear hK K
    refine nm ?_
    obtain ⟨Av, nv, cv, rfl⟩ := kV_slice R1.out
    have hc := cell_of_one SK1.out
    have hf := free_of_one SK1.out
    refine last_ (i := 9) (N := none) #[true, true, true, true, true, true, true, true, true, true] rfl rfl (by kernel_rfl) (by simp) (fun K hK => ?_)
    refine store_step rfl (w1 := w1.setCell ⟨gs, 0, none⟩ (.slice Av nv cv)) (by first | (go_simp; done) | (go_simp; rfl) | (go_simp; exact ⟨rfl, rfl⟩)) ?_
    refine hK.out _ _ ?_
    clear hK K
    refine norm_ (a' := ?_) ?_ ?_
    rotate_left
    · show Act.put _ none _ = _
      first | rfl | (simp only [Act.put]; rfl) | simp only [Act.put]
    refine done_ (by kernel_rfl) ?_
    go_end0
    exact ⟨_, _, rfl, one_setCell SK1.out, (by rw [List.replicate_succ']; exact kV_move R1.out (fun k hk => Below.heap_setCell _ _ _ k (by have := (kV_lt R1.out k hk).1; simp; omega))), fun k h1 h2 h3 => (Below.heap_setCell _ _ _ k h2).trans (K1.out k h1 h2 h3), A1.out, Below.setCell B1.out (by simp) _⟩
  · skip
    refine event_step rfl (by first | (go_simp; done) | (go_simp; rfl) | (go_simp; exact ⟨rfl, rfl⟩)) ?_
    refine new_lit _ _ ?_
    intro g3 W' hb
    have nBK := aq (blk_below BK.out hb)
    have nSK := aq (blk_below SK.out hb)
    have nHB := aq (below_step HB.out hb)
    have nHV := aq (kV_below HV.out hb)
    clear BK SK HB HV  hb
    have BK := nBK
    have SK := nSK
    have HB := nHB
    have HV := nHV
    clear nBK nSK nHB nHV 
    refine hK.out _ _ ⟨bc SK 0, bc BK 0, bc BK 1⟩ (fun hHeld => ?_)
    clear hK K
    refine nm ?_
    refine on1 2 7 fun K hK => ?_
    refine gS Tryd.func57 #[.agg #[.int .u64 lv, .int .u64 ix]] ?_
    refine (impl_fromNode.calls lv ix lv ix _ rfl).mono ?_
    rintro e W' ⟨rfl, hb⟩
    refine ⟨_, rfl, ?_⟩
    have nBK := aq (blk_below BK.out hb)
    have nSK := aq (blk_below SK.out hb)
    have nHB := aq (below_step HB.out hb)
    have nHV := aq (kV_below HV.out hb)
    clear BK SK HB HV  hb
    have BK := nBK
    have SK := nSK
    have HB := nHB
    have HV := nHV
    clear nBK nSK nHB nHV 
    refine hK.out _ _ ⟨bc SK 0, bc BK 0, bc BK 1⟩ (fun hHeld => ?_)
    clear hK K
    refine nm ?_
    refine on1 5 10 fun K hK => ?_
    refine app_step g3 (.tmp 8) (.tmp 9) rfl rfl rfl rfl rfl (Kd.C_below HL.out HB.out) hll ?_
    intro B d W' hd hC hb
    have nBK := aq (blk_below BK.out hb)
    have nSK := aq (blk_below SK.out hb)
    have nHB := aq (below_step HB.out hb)
    have nHV := aq (kV_below HV.out hb)
    clear BK SK HB HV  hb
    have BK := nBK
    have SK := nSK
    have HB := nHB
    have HV := nHV
    clear nBK nSK nHB nHV 
    clear hC
    refine hK.out _ _ ⟨bc SK 0, bc BK 0, bc BK 1⟩ (fun hHeld => ?_)
    clear hK K
    refine nm ?_
    refine pu 6 11 ?_
    refine on1 7 12 fun K hK => ?_
    refine event_step rfl (v := .slice (some ⟨_, 0, none⟩) 1 1) (w1 := World.alloc _ (.cells #[.int .u64 lv, .int .u64 ix, .slice B l.length d] 58)) (by first | (go_simp; done) | (go_simp; rfl) | (go_simp; exact ⟨rfl, rfl⟩)) ?_
    rename World => W2
    have hb := below_alloc (Below.refl W2.heap.size W2) (.cells #[.int .u64 lv, .int .u64 ix, .slice B l.length d] 58)
    refine hK.out _ _ ⟨(blk_cell (blk_below SK.out hb) 0).trans rfl, (blk_cell (blk_below BK.out hb) 0).trans rfl, (blk_cell (blk_below BK.out hb) 1).trans rfl⟩ (fun hHeld => ?_)
    clear hK K
    refine nm ?_
    refine on1 8 13 fun K hK => ?_
    refine Kd.R_append_step kV (w0 := w) (gs + 1) rfl (.tmp 5) (.tmp 12) 37 58 (.agg #[.int .u64 0, .int .u64 0, .slice none 0 0]) 40 rfl Tryd.underlying37 infoV rfl (by decide) (by omega) v (List.replicate n ()) () [.int .u64 lv, .int .u64 ix, .slice B l.length d] (fun _ => True) (fun _ => False) rfl rfl ⟨rfl, by simp [Value.oneCell']⟩ (fun _ h => h.elim) (fun _ _ => trivial) HV.out (Below.mono HB.out (by omega)) (Nat.le_trans (by omega) (below_size HB.out)) (by simp; omega) ?_
    intro v1 w1 hR1 hB1 hG1 hA1
    have hlt := below_size HB.out
    have SK1 := aq ((hG1.block gs (by omega) (fun h => by have := (kV_lt HV0.out gs h.symm).1; omega)).trans SK.out)
    have BK1 := aq ((hG1.block w.heap.size (lt_of_block BK.out) (fun h => by have := (kV_lt HV0.out w.heap.size h.symm).2; omega)).trans BK.out)
    have K1 : Aside0 (∀ k, k < w.heap.size → k ≠ gs → some k ≠ v.ownBlock → w1.heap[k]? = w.heap[k]?) := ⟨fun k hk _ hv => (hG1.block k (by omega) hv).trans (HB.out.block k hk)⟩
    have A1 : Aside0 (v1.ownBlock = v.ownBlock ∨ ∃ b, v1.ownBlock = some b ∧ w.heap.size ≤ b) := ⟨hA1.imp id fun ⟨b, h1, h2⟩ => ⟨b, h1, Nat.le_trans hlt h2⟩⟩
    have B1 := aq (Below.mono hB1 (Nat.le_succ gs))
    have R1 := aq hR1
    clear hG1 hA1 hB1 hR1 SK BK HB HV hHeld
    refine hK.out _ _ ⟨bc SK1 0, bc BK1 0, bc BK1 1⟩ (fun hHeld => ?_)
    clear hK K
    refine nm ?_
    obtain ⟨Av, nv, cv, rfl⟩ := kV_slice R1.out
    have hc := cell_of_one SK1.out
    have hf := free_of_one SK1.out
    refine last_ (i := 9) (N := none) #[true, true, true, true, true, true, true, true, true, true] rfl rfl (by kernel_rfl) (by simp) (fun K hK => ?_)
    refine store_step rfl (w1 := w1.setCell ⟨gs, 0, none⟩ (.slice Av nv cv)) (by first | (go_simp; done) | (go_simp; rfl) | (go_simp; exact ⟨rfl, rfl⟩)) ?_
    refine hK.out _ _ ?_
    clear hK K
    refine norm_ (a' := ?_) ?_ ?_
    rotate_left
    · show Act.put _ none _ = _
      first | rfl | (simp only [Act.put]; rfl) | simp only [Act.put]
    refine done_ (by kernel_rfl) ?_
    go_end0
    exact ⟨_, _, rfl, one_setCell SK1.out, (by rw [List.replicate_succ']; exact kV_move R1.out (fun k hk => Below.heap_setCell _ _ _ k (by have := (kV_lt R1.out k hk).1; simp; omega))), fun k h1 h2 h3 => (Below.heap_setCell _ _ _ k h2).trans (K1.out k h1 h2 h3), A1.out, Below.setCell B1.out (by simp) _⟩
theorem visitR {a0 a1 a2 a3 a4 a5 : Int} {w0 : World} {gr gf gs : Nat} {S : Nat → Prop} {w : World} {b e : Int} {vr vs : Value} {l : List (List Int)} {n : Nat} (h : RSt a0 a1 a2 a3 a4 a5 w0 gr gf gs S w b e vr vs l n) (lv ix : Int) (A : Option Addr) (c : Nat) (s : List Int) (hs : Safe S w A s) (hl : s.length ≤ 140737488351232) (hn : n ≤ 1000) :
    Calls Tryd.prog 71 #[.agg #[.int .u64 lv, .int .u64 ix], .slice A s.length c, .pointer (some ⟨gs, 0, none⟩)] w fun en w' => ∃ v0 vs' S', en = .returned v0 ∧ RSt a0 a1 a2 a3 a4 a5 w0 gr gf gs S' w' b e vr vs' l (n + 1) ∧ Grows S S' w ∧ KeptS S' w w' :=
  (visitR_calls lv ix A c s gs n vs w hs.bytes hl h.seen (h.top _ h.sseen) h.srow hn).mono fun _ w' ⟨v0, v', h1, h2, h3, h4, h5, h6⟩ => by
    have hsz : w.heap.size ≤ w'.heap.size := h6.size
    have hgs : w0.heap.size ≤ gs := h.base _ h.sseen
    have hg : Grows S (fun k => S k ∨ v'.ownBlock = some k) w := ⟨fun k hk => .inl hk, fun k hk => by
      rcases hk with hk | hk
      · exact .inl hk
      · rcases h5 with h5 | ⟨b', h5, h7⟩
        · exact .inl (h.sown k (h5 ▸ hk))
        · rw [h5] at hk
          injection hk with hk
          exact .inr (by omega)⟩
    have hk : KeptS (fun k => S k ∨ v'.ownBlock = some k) w w' := ⟨hsz, fun k hk hS => h4 k hk (fun he => hS (.inl (he ▸ h.sseen))) (fun he => hS (.inl (h.sown k he.symm)))⟩
    have hgr : w'.heap[gr]? = w.heap[gr]? := h4 gr (h.top _ h.sobj) h.ne_gs (Kd.R_ne h.srow h.obj (by decide))
    refine ⟨v0, v', _, h1, ?_, hg, hk⟩
    exact {
      below := below_sz' h.below (h6.mono hgs)
      base := fun k hk => by
        rcases hg.2 k hk with h8 | h8
        · exact h.base k h8
        · exact Nat.le_trans h.below.size h8
      top := fun k hk => by
        rcases hk with hk | hk
        · exact Nat.lt_of_lt_of_le (h.top k hk) hsz
        · exact (kV_lt h3 k hk).2
      fac := (h4 gf (lt_of_block h.fac) (fun he => h.nfac (he ▸ h.sseen)) (fun he => h.nfac (h.sown gf he.symm))).trans h.fac
      nfac := fun hk => by
        rcases hg.2 gf hk with h8 | h8
        · exact h.nfac h8
        · have := lt_of_block h.fac
          omega
      obj := hgr.trans h.obj
      sobj := .inl h.sobj
      rows := h.rows.step hg hk fun q hq => h4 q (Kd.R_lt h.rows.row q hq) (h.rown q hq).1 (h.rown q hq).2.1
      seen := h2
      sseen := .inl h.sseen
      srow := h3
      sown := fun k hk => .inr hk }
end Go.Proofs.YtfhcpniibiobgaaDoor.Qf
namespace Go.Proofs.YtfhcpniibiobgaaDoor.Qf
open Go.RowKit Go.Proofs.YtfhcpniibiobgaaDoorW.PrintWords Go.Proofs.YtfhcpniibiobgaaDoorW.PrintLast Go.Proofs.YtfhcpniibiobgaaDoorW.PrintMore
open Hs (CB CL at_L at_B infoB infoL R_of_blk)
open Go.Proofs.YtfhcpniibiobgaaDoor.M (pc pc_add)
theorem lreads {S : Nat → Prop} {w w1 : World} {A : Option Addr} {M : List (List Int)} (h : LRow S w A M) (z c : Nat) (hz : z ≤ M.length) (hc : M.length ≤ c) (hl : M.length ≤ 1000) (hk : ∀ ad, A = some ad → ¬ S ad.block → ad.block < w.heap.size → w1.heap[ad.block]? = w.heap[ad.block]?) :
    ReadsRow (fun (x : List Int) cs => ∃ A' c', cs = [.slice A' x.length c'] ∧ x.length ≤ c' ∧ Safe S w A' x) 1 w1 (if c = z then A else A.map (·.add (z * 1))) (M.length - z) (M.drop z) := by
  refine ⟨by rw [List.length_drop], by omega, fun hp => ?_⟩
  obtain ⟨ad, _, _, ea, _⟩ := h.get z (by omega)
  subst ea
  rw [if_neg (by omega)]
  refine ⟨ad.add (z * 1), rfl, fun j p hj => ?_⟩
  rw [List.getElem?_drop] at hj
  obtain ⟨hjl, hjp⟩ := List.getElem?_eq_some_iff.1 hj
  have hget : M.getD (z + j) [] = p := by rw [List.getD_eq_getElem?_getD, hj]; rfl
  obtain ⟨ad', A0, c0, e1, e2, e3, e4, e5, e6⟩ := h.get (z + j) hjl
  injection e1 with e1
  subst e1
  rw [hget] at e2 e3 e4
  refine ⟨_, rfl, ⟨A0, c0, rfl, e3, e4⟩, fun i u hi => ?_⟩
  rcases i with _ | i
  · obtain rfl := Option.some.inj hi
    rw [← e2, Nat.mul_one, Nat.mul_one, Nat.add_zero, Addr.add_add]
    unfold World.cell?
    rw [show (ad.add (z + j)).block = ad.block by unfold Addr.add; split <;> rfl, hk ad rfl e6 e5]
  · simp at hi
theorem pc_step (x j : Nat) : pc (j + 1) x = pc j x + x / 2 ^ j % 2 := by rw [pc_add j 1 x]; rfl
theorem pc_le' (x j : Nat) : pc j x ≤ j := by
  induction j with
  | zero => exact Nat.le_refl _
  | succ j ih =>
    rw [pc_step]
    omega
theorem pc_both (x j n : Nat) (h : j ≤ n) : pc j x ≤ pc n x ∧ j - pc j x ≤ n - pc n x := by
  obtain ⟨d, rfl⟩ : ∃ d, n = j + d := ⟨n - j, by omega⟩
  have h1 := pc_le' (x / 2 ^ j) d
  have h2 := pc_le' x j
  rw [pc_add]
  omega
end Go.Proofs.YtfhcpniibiobgaaDoor.Qf
namespace Go.Proofs.YtfhcpniibiobgaaDoor.Qf
open Go.RowKit Go.Proofs.YtfhcpniibiobgaaDoorW.PrintWords Go.Proofs.YtfhcpniibiobgaaDoorW.PrintLast Go.Proofs.YtfhcpniibiobgaaDoorW.PrintMore
open Hs (CB CL at_L at_B infoB infoL R_of_blk)
open Go.Proofs.YtfhcpniibiobgaaDoor.M (pc pc_add)
theorem visR_ne (g : Nat) (W : World) : (binOp .neq 152 (.func (.func 71) #[] #[.pointer (some ⟨g, 0, none⟩)]) .nilFunc).run Tryd.prog W = .ok (.bool true) W := by kernel_rfl
def mrO (a0 a1 a2 a3 a4 a5 : Int) (l m : List (List Int)) (x : Nat) : Nat → List Int → Option (List Int)
  | 0, s => some s
  | n + 1, s => (mrO a0 a1 a2 a3 a4 a5 l m x n s).bind fun s' => (if x / 2 ^ n % 2 = 1 then impl_toy_HashChildren.f a0 a1 a2 a3 a4 a5 (l.getD (l.length - 1 - pc n x) []) s' else impl_toy_HashChildren.f a0 a1 a2 a3 a4 a5 s' (m.getD (n - pc n x) [])).bind fun s2 => if s2.length ≤ 140737488351232 then some s2 else none
theorem mrO_pre {a0 a1 a2 a3 a4 a5 : Int} {l m : List (List Int)} {x : Nat} {s : List Int} : ∀ {n : Nat} {r : List Int}, mrO a0 a1 a2 a3 a4 a5 l m x n s = some r → ∀ t, t ≤ n → ∃ r', mrO a0 a1 a2 a3 a4 a5 l m x t s = some r'
  | 0, r, h, t, ht => by
    obtain rfl : t = 0 := by omega
    exact ⟨r, h⟩
  | n + 1, r, h, t, ht => by
    by_cases e : t = n + 1
    · subst e
      exact ⟨r, h⟩
    · rw [mrO] at h
      obtain ⟨r1, h1, _⟩ := Option.bind_eq_some_iff.1 h
      exact mrO_pre h1 t (by omega)
theorem mrO_next {a0 a1 a2 a3 a4 a5 : Int} {l m : List (List Int)} {x : Nat} {s s' s2 : List Int} {t : Nat} (h : mrO a0 a1 a2 a3 a4 a5 l m x t s = some s') (h2 : mrO a0 a1 a2 a3 a4 a5 l m x (t + 1) s = some s2) : (if x / 2 ^ t % 2 = 1 then impl_toy_HashChildren.f a0 a1 a2 a3 a4 a5 (l.getD (l.length - 1 - pc t x) []) s' else impl_toy_HashChildren.f a0 a1 a2 a3 a4 a5 s' (m.getD (t - pc t x) [])) = some s2 ∧ s2.length ≤ 140737488351232 := by
  rw [mrO, h, Option.bind_some] at h2
  obtain ⟨r, h3, h4⟩ := Option.bind_eq_some_iff.1 h2
  split at h4
  · obtain rfl := Option.some.inj h4
    exact ⟨h3, by assumption⟩
  · cases h4
set_option maxHeartbeats 4000000 in
set_option maxRecDepth 100000 in
theorem appendR_gen (a0 a1 a2 a3 a4 a5 : Int) (w0 : World) (gr gf gs : Nat) (S : Nat → Prop) (w : World) (b e x : Nat) (vr vs : Value) (l : List (List Int)) (n0 : Nat) (As : Option Addr) (cs : Nat) (s t : List Int) (Am : Option Addr) (cm : Nat) (m : List (List Int)) (low hgh n o : Nat) (h : RSt a0 a1 a2 a3 a4 a5 w0 gr gf gs S w (b : Int) (e : Int) vr vs l n0) (hs : Safe S w As s) (hsc : s.length ≤ cs) (hmr : LRow S w Am m) (hmc : m.length ≤ cm) (hml : m.length ≤ 500) (HG_ : Glob w0)
    (hx : e < 18446744073709551616) (hmp : compact_getMergePath.f (b : Int) (e : Int) (x : Int) = some ((low : Int), (hgh : Int))) (hlh : low ≤ hgh) (hn : low + n = hgh) (hh : hgh ≤ 64) (ho : o = pc n (e / 2 ^ low)) (hnl : o ≤ l.length) (hnm : n - o ≤ m.length) (hn0 : n0 + n ≤ 1000) (hll : l.length ≤ 500)
    (hones : bits_OnesCount64.f (Go.bits .and .u64 ((e : Int) / 2 ^ low) (IntKind.u64.wrap (IntKind.u64.wrap ((2 : Int) ^ n) - 1))) = some (o : Int))
    (hm : mrO a0 a1 a2 a3 a4 a5 l m (e / 2 ^ low) n s = some t) :
    Calls Tryd.prog 98 #[.pointer (some ⟨gr, 0, none⟩), .int .u64 (x : Int), .slice As s.length cs, .slice Am m.length cm, .func (.func 71) #[] #[.pointer (some ⟨gs, 0, none⟩)]] w fun en w' => ∃ vr' vs' S', en = .returned .nilIface ∧ RSt a0 a1 a2 a3 a4 a5 w0 gr gf gs S' w' (b : Int) (x : Int) vr' vs' (l.take (l.length - o) ++ [t] ++ m.drop (n - o)) (n0 + n) ∧ Grows S S' w ∧ KeptS S' w w' := by
  have HR := aq h
  have HS := aq hs
  have HG := aq HG_
  have HMP := aq hmp
  have HM := aq hm
  have HON := aq hones
  have HLR := aq hmr
  have HMC := aq hmc
  have HML := aq hml
  have HLL := aq hll
  have HNM := aq hnm
  have HNL := aq hnl
  have hon : o ≤ n := by rw [ho]; exact pc_le' _ _
  have HONN := aq hon
  obtain ⟨ixz, hixz⟩ : ∃ ixz, ixz = e / 2 ^ low := ⟨_, rfl⟩
  rw [← hixz] at ho hm
  have HIXZ := aq hixz
  have HO := aq ho
  have HM := aq hm
  clear h hs HG_ hmp hm hones hmr ho hixz hon
  obtain ⟨A, c, rfl, hlc, _⟩ := Kd.R_reads HR.out.rows.row
  have k0 : w.cell? ⟨gr, 0, none⟩ = some (.pointer (some ⟨gf, 0, none⟩)) := (blk_cell HR.out.obj 0).trans rfl
  have k1 : w.cell? ⟨gr, 1, none⟩ = some (.int .u64 (b : Int)) := (blk_cell HR.out.obj 1).trans rfl
  have k2 : w.cell? ⟨gr, 2, none⟩ = some (.int .u64 (e : Int)) := (blk_cell HR.out.obj 2).trans rfl
  have k3 : w.cell? ⟨gr, 3, none⟩ = some (.slice A l.length c) := (blk_cell HR.out.obj 3).trans rfl
  have t1 : decide ((hgh : Int) < (low : Int)) = false := decide_eq_false (by omega)
  have t1n : decide (hgh < low) = false := decide_eq_false (by omega)
  have hsub : ∀ z : Int, z = (low : Int) → IntKind.u64.wrap ((hgh : Int) - z) = (n : Int) := fun z hz => by
    rw [hz, show ((hgh : Int) - (low : Int)) = (n : Int) by omega]
    show (n : Int) % 18446744073709551616 = _
    omega
  go_enter Tryd.func98, Tryd.ntmps98
  go_wp2
  go_region_held3 (fun w' => w'.cell? ⟨gr, 1, none⟩ = some (.int .u64 (b : Int)) ∧ w'.cell? ⟨gr, 2, none⟩ = some (.int .u64 (e : Int)) ∧ Below w.heap.size w w')
    (((try dsimp only); (try go_split_ands); (repeat' apply And.intro) <;> first | (go_keep; done) | exact below_drew (Below.refl _ _) | (refine pw_cell_below hb ?_; assumption) | (refine below_then ?_ ?_ hb; assumption; exact Below.size (by assumption))))
    ((go_at_call 115; have hB0 := aq (show Below w.heap.size w _ by go_split_ands; assumption); refine (compact_getMergePath.calls (b : Int) (e : Int) (x : Int) (low : Int) (hgh : Int) _ (Glob.below HG.out (below_sz' HR.out.below ((Below.mono hB0.out HR.out.below.size)))) HMP.out).mono ?_; rintro en w1 ⟨rfl, hd⟩; have hb := hd.below))
  go_split_ands
  have hB1 : Below w.heap.size w w1 := by assumption
  have HR1 := aq (HR.out.step hB1)
  have HS1 := aq (HS.out.below hB1)
  have HLR1 := aq (HLR.out.step (Grows.refl _ _) (KeptS.below hB1))
  have k0 : w1.cell? ⟨gr, 0, none⟩ = some (.pointer (some ⟨gf, 0, none⟩)) := (blk_cell HR1.out.obj 0).trans rfl
  have k2 : w1.cell? ⟨gr, 2, none⟩ = some (.int .u64 (e : Int)) := (blk_cell HR1.out.obj 2).trans rfl
  have k3 : w1.cell? ⟨gr, 3, none⟩ = some (.slice A l.length c) := (blk_cell HR1.out.obj 3).trans rfl
  have t2 : decide ((l.length : Int) < (o : Int)) = false := decide_eq_false (by omega)
  have t2n : decide (l.length < o) = false := decide_eq_false (by omega)
  have t3 : decide ((m.length : Int) < ((n - o : Nat) : Int)) = false := decide_eq_false (by omega)
  have t3n : decide (m.length < n - o) = false := decide_eq_false (by omega)
  have hz1 : ∀ z : Int, z = (n : Int) → wrap64 z = (n : Int) := fun z hz => by rw [hz]; exact w64_in _ (by omega)
  have hz2 : ∀ z : Int, z = (o : Int) → wrap64 ((n : Int) - z) = ((n - o : Nat) : Int) := fun z hz => by rw [hz, w64_in _ (by have := HONN.out; omega)]; have := HONN.out; omega
  go_wp2_with (first
    | (go_at_call 113; (with_reducible refine (bits_OnesCount64.calls _ _ _ HON.out).mono ?_); rintro en w2 ⟨rfl, hd⟩; have HR2 := aq (HR1.out.step hd.below); have HS2 := aq (HS1.out.below hd.below); have HLR2 := aq (HLR1.out.step (Grows.refl _ _) (KeptS.below hd.below)); have HK2 := aq (below_then hB1 hB1.size hd.below); have k0 := pw_cell_below hd.below k0; have k2 := pw_cell_below hd.below k2; have k3 := pw_cell_below hd.below k3; clear hd))
  (try simp only [Act.put, List.setIfInBounds_toArray, List.set_cons_zero, List.set_cons_succ])
  obtain ⟨ix0, hix0⟩ : ∃ q : Nat, q = e / 2 ^ low := ⟨_, rfl⟩
  have hix : (e : Int) / 2 ^ low = (ix0 : Int) := by rw [hix0]; push_cast; rfl
  have hixl : ix0 < 18446744073709551616 := by rw [hix0]; exact Nat.lt_of_le_of_lt (Nat.div_le_self _ _) hx
  have eix : ixz = ix0 := by rw [hix0]; exact HIXZ.out
  rw [eix] at HM HO
  clear eix HIXZ
  have HPRE := aq (fun t ht => mrO_pre HM.out t ht)
  go_loopg [2, 13, 18, 19, 20] n (fun kq v2 v13 v18 v19 v20 wr => ∃ (j ix p zz : Nat) (s' : List Int) (A' : Option Addr) (c' : Nat) (vs' : Value) (S' : Nat → Prop), j + kq = n ∧ v2 = .slice A' s'.length c' ∧ v13 = .int .u64 (ix : Int) ∧ ix = ix0 / 2 ^ j ∧ v18 = .int .i64 (p : Int) ∧ p + pc j ix0 = l.length ∧ v19 = .int .i64 (zz : Int) ∧ zz + pc j ix0 = j ∧ v20 = .int .u64 ((low + j : Nat) : Int) ∧ Aside0 (s'.length ≤ c') ∧ Aside0 (RSt a0 a1 a2 a3 a4 a5 w0 gr gf gs S' wr (b : Int) (e : Int) (.slice A l.length c) vs' l (n0 + j)) ∧ Aside0 (Safe S' wr A' s') ∧ Aside0 (Grows S S' w) ∧ Aside0 (KeptS S' w wr) ∧ Aside0 (LRow S' wr Am m) ∧ Aside0 (mrO a0 a1 a2 a3 a4 a5 l m ix0 j s = some s'))
  case atStart => exact ⟨0, ix0, l.length, 0, s, As, cs, vs, S, by omega, rfl, by rw [hix], by simp, rfl, rfl, rfl, rfl, rfl, ⟨hsc⟩, HR2, HS2, ⟨Grows.refl _ _⟩, ⟨KeptS.below HK2.out⟩, HLR2, ⟨rfl⟩⟩
  case round =>
    clear k0 k1 k2 k3 HR2 HS2 HK2 HR1 HS1 HR HS HLR2 HLR1 HLR t1 t1n t2 t2n t3 t3n hsub hz1 hz2 hix
    obtain ⟨j, ix, p, zz, s', A', c', vs', S', hjk, rfl, rfl, hixe, rfl, hpl, rfl, hzl, rfl, HSC, HR, HS, HGr, HKp, HLR, HMj⟩ := hrel
    rename World => wr
    have k0 : wr.cell? ⟨gr, 0, none⟩ = some (.pointer (some ⟨gf, 0, none⟩)) := (blk_cell HR.out.obj 0).trans rfl
    have k3 : wr.cell? ⟨gr, 3, none⟩ = some (.slice A l.length c) := (blk_cell HR.out.obj 3).trans rfl
    have kf : wr.cell? ⟨gf, 0, none⟩ = some (.func (.func 53) #[.agg #[.int .i64 a0, .int .i64 a1, .int .i64 a2, .int .u64 a3, .int .u64 a4, .int .u64 a5]] #[]) := (blk_cell HR.out.fac 0).trans rfl
    by_cases hlt : j < n
    · have HJ := aq hjk
      have u1 : decide (((low + j : Nat) : Int) < (hgh : Int)) = true := decide_eq_true (by omega)
      have hixl2 : ix < 18446744073709551616 := by rw [hixe]; exact Nat.lt_of_le_of_lt (Nat.div_le_self _ _) hixl
      by_cases hb1 : ix % 2 = 1
      · have u2 : (Go.bits .and .u64 (ix : Int) 1 == 0) = false := beq_eq_false_iff_ne.2 (by
          rw [show (1 : Int) = ((1 : Nat) : Int) from rfl, bits_and_u64_nat ix 1 hixl2 (by omega), Nat.and_one_is_mod, hb1]
          decide)
        have hpb := (pc_both ix0 (j + 1) n (by omega)).1
        have hps := pc_step ix0 j
        rw [← hixe, hb1] at hps
        obtain ⟨q, rfl⟩ : ∃ q, p = q + 1 := ⟨p - 1, by have := HO.out; have := HNL.out; omega⟩
        have HPS := aq hps
        have HZL := aq hzl
        have HPL := aq hpl
        have HIX := aq hixe
        have u3 : ∀ z : Int, z = 1 → wrap64 (((q + 1 : Nat) : Int) - z) = (q : Int) := fun z hz => by rw [hz, w64_in _ (by omega)]; omega
        obtain ⟨s2, hs2⟩ := HPRE.out (j + 1) (by omega)
        obtain ⟨hhc, hs2l⟩ := mrO_next HMj.out hs2
        rw [if_pos (by rw [← hixe]; exact hb1), show l.length - 1 - pc j ix0 = q by omega] at hhc
        obtain ⟨ad, cA, Ah, ch, ead, _, hxc, hlh, hsafe⟩ := HR.out.rows.at q (by omega)
        injection ead with ead1 ead2 ead3
        subst ead1 ead3
        generalize l.getD q [] = hsh at hhc hxc hlh hsafe
        have HHC := aq hhc
        have HSF := aq hsafe
        have HLh := aq hlh
        have HS2L := aq hs2l
        have HMn := aq hs2
        have q0 : (0 : Int) ≤ (q : Int) := by omega
        have q1 : (q : Int) < (l.length : Int) := by omega
        clear hhc hsafe hlh hs2l hs2 hjk hpl hixe hb1 HMj hpb hps hzl
        go_wp2
        go_region_held3 (fun w' => w'.cell? ⟨gr, 0, none⟩ = some (.pointer (some ⟨gf, 0, none⟩)) ∧ w'.cell? ⟨gr, 3, none⟩ = some (.slice (some ad) l.length c) ∧ w'.cell? ⟨gf, 0, none⟩ = some (.func (.func 53) #[.agg #[.int .i64 a0, .int .i64 a1, .int .i64 a2, .int .u64 a3, .int .u64 a4, .int .u64 a5]] #[]) ∧ w'.cell? (ad.add q) = some (.slice Ah hsh.length ch) ∧ Below wr.heap.size wr w')
          (((try dsimp only); (try go_split_ands); (repeat' apply And.intro) <;> first | (go_keep; done) | exact below_drew (Below.refl _ _) | (refine pw_cell_below hb ?_; assumption) | (refine below_then ?_ ?_ hb; assumption; exact Below.size (by assumption))))
          ((go_at_call 53; have hB0 := aq (show Below wr.heap.size wr _ by go_split_ands; assumption); refine (impl_toy_HashChildren.calls a0 a1 a2 a3 a4 a5 Ah ch hsh A' c' s' s2 _ (Kd.C_below HSF.out.bytes hB0.out) HLh.out (Kd.C_below HS.out.bytes hB0.out) HSC.out HHC.out).mono ?_; rintro en w3 ⟨v3, rfl, hR3, hb⟩))
        obtain ⟨A3, c3, rfl, hl3, hC3⟩ := Kd.R_reads hR3
        have HR0 := HR.out.step hB0.out
        have HS3 := aq (Safe.new (S := S') HR0.top hR3)
        have HR3 := aq (HR0.step hb)
        have HK3 := aq (HKp.out.trans (Grows.refl _ _) (KeptS.below (S := S') (below_then hB0.out hB0.out.size hb)))
        have HLR3 := aq (HLR.out.step (Grows.refl _ _) (KeptS.below (S := S') (below_then hB0.out hB0.out.size hb)))
        have HL3 := aq hl3
        clear hR3 hC3 hl3 HR0 hb hB0 HR HS HSC HSF HLh HHC HLR
        have hne := visR_ne gs
        go_split_ands
        go_wp2_with (first
          | (go_at_call 90; (with_reducible refine (compact_NewNodeID.calls _ _ _ _ _ rfl).mono ?_); rintro en w5 ⟨rfl, hb⟩; have HK3 := aq (HK3.out.trans (Grows.refl _ _) (KeptS.below (S := S') (HR3.out.below.size |> fun _ => hb))); have HS3 := aq (HS3.out.below hb); have HLR3 := aq (HLR3.out.step (Grows.refl _ _) (KeptS.below hb)); have HR3 := aq (HR3.out.step hb); clear hb)
          | (go_at_call 71; (with_reducible refine (visitR HR3.out _ _ A3 c3 s2 HS3.out HS2L.out (by omega)).mono ?_); rintro en w6 ⟨v0, vs6, S6, rfl, hR6, hG6, hK6⟩; have HR6 := aq hR6; have HG6 := aq hG6; have HK6 := aq hK6; clear hR6 hG6 hK6))
        have HGw : Aside0 (Grows S' S6 w) := ⟨HG6.out.1, fun i hi => (HG6.out.2 i hi).imp id fun h => Nat.le_trans HK3.out.size h⟩
        go_roundg (n - (j + 1))
        case measure => have := HJ.out; omega
        case rel => exact ⟨j + 1, ix / 2, q, zz, s2, A3, c3, vs6, S6, by have := HJ.out; omega, rfl, by rw [show ((ix / 2 : Nat) : Int) = (ix : Int) / 2 by omega], by rw [HIX.out, Nat.div_div_eq_div_mul, ← Nat.pow_succ], rfl, by have := HPL.out; have := HPS.out; omega, rfl, by have := HZL.out; have := HPS.out; omega, by rw [show ((low + (j + 1) : Nat) : Int) = (low : Int) + (j : Int) + 1 by omega], HL3, HR6, ⟨HS3.out.step HG6.out HK6.out⟩, ⟨HGr.out.trans (by exact Nat.le_refl _) HGw.out⟩, ⟨HK3.out.trans HGw.out HK6.out⟩, ⟨HLR3.out.step HG6.out HK6.out⟩, HMn⟩
      · have hb1 : ix % 2 = 0 := by omega
        have u2 : (Go.bits .and .u64 (ix : Int) 1 == 0) = true := beq_iff_eq.2 (by
          rw [show (1 : Int) = ((1 : Nat) : Int) from rfl, bits_and_u64_nat ix 1 hixl2 (by omega), Nat.and_one_is_mod, hb1]
          rfl)
        have hpb := (pc_both ix0 (j + 1) n (by omega)).2
        have hps := pc_step ix0 j
        rw [← hixe, hb1] at hps
        have hzm : zz < m.length := by have := HO.out; have := HNM.out; omega
        have HZM := aq hzm
        have HPS := aq hps
        have HZL := aq hzl
        have HPL := aq hpl
        have HIX := aq hixe
        have u3 : ∀ z : Int, z = 1 → wrap64 ((zz : Int) + z) = ((zz + 1 : Nat) : Int) := fun z hz => by rw [hz, w64_in _ (by have := HML.out; omega)]; omega
        obtain ⟨s2, hs2⟩ := HPRE.out (j + 1) (by omega)
        obtain ⟨hhc, hs2l⟩ := mrO_next HMj.out hs2
        rw [if_neg (by rw [← hixe]; omega), show j - pc j ix0 = zz by omega] at hhc
        obtain ⟨ad, Ah, ch, ead, hxc, hlh, hsafe, _, _⟩ := HLR.out.get zz hzm
        subst ead
        generalize m.getD zz [] = hsh at hhc hxc hlh hsafe
        have HHC := aq hhc
        have HSF := aq hsafe
        have HLh := aq hlh
        have HS2L := aq hs2l
        have HMn := aq hs2
        have q0 : (0 : Int) ≤ (zz : Int) := by omega
        have q1 : (zz : Int) < (m.length : Int) := by omega
        clear hhc hsafe hlh hs2l hs2 hjk hpl hixe hb1 HMj hpb hps hzl hzm
        go_wp2
        go_region_held3 (fun w' => w'.cell? ⟨gr, 0, none⟩ = some (.pointer (some ⟨gf, 0, none⟩)) ∧ w'.cell? ⟨gf, 0, none⟩ = some (.func (.func 53) #[.agg #[.int .i64 a0, .int .i64 a1, .int .i64 a2, .int .u64 a3, .int .u64 a4, .int .u64 a5]] #[]) ∧ w'.cell? (ad.add zz) = some (.slice Ah hsh.length ch) ∧ Below wr.heap.size wr w')
          (((try dsimp only); (try go_split_ands); (repeat' apply And.intro) <;> first | (go_keep; done) | exact below_drew (Below.refl _ _) | (refine pw_cell_below hb ?_; assumption) | (refine below_then ?_ ?_ hb; assumption; exact Below.size (by assumption))))
          ((go_at_call 53; have hB0 := aq (show Below wr.heap.size wr _ by go_split_ands; assumption); refine (impl_toy_HashChildren.calls a0 a1 a2 a3 a4 a5 A' c' s' Ah ch hsh s2 _ (Kd.C_below HS.out.bytes hB0.out) HSC.out (Kd.C_below HSF.out.bytes hB0.out) HLh.out HHC.out).mono ?_; rintro en w3 ⟨v3, rfl, hR3, hb⟩))
        obtain ⟨A3, c3, rfl, hl3, hC3⟩ := Kd.R_reads hR3
        have HR0 := HR.out.step hB0.out
        have HS3 := aq (Safe.new (S := S') HR0.top hR3)
        have HR3 := aq (HR0.step hb)
        have HK3 := aq (HKp.out.trans (Grows.refl _ _) (KeptS.below (S := S') (below_then hB0.out hB0.out.size hb)))
        have HLR3 := aq (HLR.out.step (Grows.refl _ _) (KeptS.below (S := S') (below_then hB0.out hB0.out.size hb)))
        have HL3 := aq hl3
        clear hR3 hC3 hl3 HR0 hb hB0 HR HS HSC HSF HLh HHC HLR
        have hne := visR_ne gs
        go_split_ands
        go_wp2_with (first
          | (go_at_call 90; (with_reducible refine (compact_NewNodeID.calls _ _ _ _ _ rfl).mono ?_); rintro en w5 ⟨rfl, hb⟩; have HK3 := aq (HK3.out.trans (Grows.refl _ _) (KeptS.below (S := S') (HR3.out.below.size |> fun _ => hb))); have HS3 := aq (HS3.out.below hb); have HLR3 := aq (HLR3.out.step (Grows.refl _ _) (KeptS.below hb)); have HR3 := aq (HR3.out.step hb); clear hb)
          | (go_at_call 71; (with_reducible refine (visitR HR3.out _ _ A3 c3 s2 HS3.out HS2L.out (by omega)).mono ?_); rintro en w6 ⟨v0, vs6, S6, rfl, hR6, hG6, hK6⟩; have HR6 := aq hR6; have HG6 := aq hG6; have HK6 := aq hK6; clear hR6 hG6 hK6))
        have HGw : Aside0 (Grows S' S6 w) := ⟨HG6.out.1, fun i hi => (HG6.out.2 i hi).imp id fun h => Nat.le_trans HK3.out.size h⟩
        go_roundg (n - (j + 1))
        case measure => have := HJ.out; omega
        case rel => exact ⟨j + 1, ix / 2, p, zz + 1, s2, A3, c3, vs6, S6, by have := HJ.out; omega, rfl, by rw [show ((ix / 2 : Nat) : Int) = (ix : Int) / 2 by omega], by rw [HIX.out, Nat.div_div_eq_div_mul, ← Nat.pow_succ], rfl, by have := HPL.out; have := HPS.out; omega, by first | rfl | exact congrArg (Value.int .i64) (u3 1 rfl), by have := HZL.out; have := HPS.out; omega, by rw [show ((low + (j + 1) : Nat) : Int) = (low : Int) + (j : Int) + 1 by omega], HL3, HR6, ⟨HS3.out.step HG6.out HK6.out⟩, ⟨HGr.out.trans (by exact Nat.le_refl _) HGw.out⟩, ⟨HK3.out.trans HGw.out HK6.out⟩, ⟨HLR3.out.step HG6.out HK6.out⟩, HMn⟩
    · have hjn : j = n := by omega
      subst hjn
      have u1 : decide (((low + j : Nat) : Int) < (hgh : Int)) = false := decide_eq_false (by omega)
      have u1n : decide (low + j < hgh) = false := decide_eq_false (by omega)
      go_wp2
      obtain ⟨iL, hiL, hsL⟩ := Option.map_eq_some_iff.1 infoL
      have hcut1 : ∀ W : World, (Instr.slice 25 (.slice A l.length c) none (some (.int .i64 (p : Int))) none).run Tryd.prog W = .ok (.slice A p c) W := fun W => by
        have h := cut_to (P := Tryd.prog) 25 28 .i64 Tryd.underlying25 hiL A l.length c (p : Int) (by omega) (by omega) hlc W
        rw [Int.toNat_natCast] at h
        exact h
      have hpo : p + o = l.length := by have := HO.out; omega
      have hzo : zz + o = j := by have := HO.out; omega
      have hzm : zz ≤ m.length := by have := HNM.out; omega
      have hsz1_ : iL.size = 1 := by simp only [Prod.mk.injEq] at hsL; exact hsL.2.1
      obtain ⟨Ah2, hAh2⟩ : ∃ Ah2, Ah2 = (if cm = zz then Am else Am.map (·.add (zz * 1))) := ⟨_, rfl⟩
      obtain ⟨ml2, hml2⟩ : ∃ ml2, ml2 = m.length - zz := ⟨_, rfl⟩
      obtain ⟨mc2, hmc2⟩ : ∃ mc2, mc2 = cm - zz := ⟨_, rfl⟩
      have hcut2 : ∀ W : World, (Instr.slice 25 (.slice Am m.length cm) (some (.int .i64 (zz : Int))) none none).run Tryd.prog W = .ok (.slice Ah2 ml2 mc2) W := fun W => by
        have h := cut_from (P := Tryd.prog) 25 28 .i64 Tryd.underlying25 hiL 1 hsz1_ Am m.length cm (zz : Int) (by omega) (by omega) W
        rw [Int.toNat_natCast] at h
        rw [hAh2, hml2, hmc2]
        exact h
      have HML2 := aq hml2
      have HAH2 := aq hAh2
      have HPO := aq hpo
      have HZO := aq hzo
      have HZM := aq hzm
      clear hsz1_ hml2 hmc2 hAh2 hpo hzo hzm
      clear hiL hsL
      have HRz := aq (HR.out.step (below_drew (Below.refl wr.heap.size wr)))
      have HSz := aq (HS.out.below (below_drew (Below.refl wr.heap.size wr)))
      have HKz := aq (HKp.out.trans (Grows.refl _ _) (KeptS.below (S := S') (below_drew (Below.refl wr.heap.size wr))))
      have HLz := aq (HLR.out.step (Grows.refl _ _) (KeptS.below (S := S') (below_drew (Below.refl wr.heap.size wr))))
      refine start_ (n := 17) (S := fun w' => w'.cell? ⟨gr, 3, none⟩ = some (.slice A l.length c)) (ds := [16]) #[false, false, false, false, false, false, false, false, false, false, false, false, false, false, false, false, false] (by kernel_rfl) rfl rfl ((blk_cell HRz.out.obj 3).trans rfl) (fun hHeld => ?_)
      generalize wr.drew = wz at HRz HSz HKz HLz hHeld ⊢
      clear k0 k3 kf HR HS HKp HLR
      refine pu 0 131 ?_
      refine pu 1 132 ?_
      refine pu 2 133 ?_
      refine pu 3 134 ?_
      refine ta 4 135 hHeld ?_
      refine pu 5 136 ?_
      refine pu 6 137 ?_
      refine pu 7 138 ?_
      refine pu 10 141 ?_
      refine pu 11 142 ?_
      refine pu 12 143 ?_
      refine on1 8 139 fun K hK => ?_
      refine event_step rfl (v := .slice (some ⟨_, 0, none⟩) 1 1) (w1 := World.alloc _ (.cells #[.slice A' s'.length c'] 28)) (by first | (go_simp; done) | (go_simp; rfl) | (go_simp; exact ⟨rfl, rfl⟩)) ?_
      refine hK.out _ _ ((blk_cell (blk_below HRz.out.obj (below_alloc (Below.refl _ _) _)) 3).trans rfl) (fun hHeld => ?_)
      clear hK K
      refine nm ?_
      refine on1 9 140 fun K hK => ?_
      refine Kd.R_append_step (kG S' wz) (w0 := w0) w0.heap.size rfl (.tmp 137) (.tmp 139) 25 28 (.slice none 0 0) 24 rfl Tryd.underlying25 infoL rfl Nat.zero_lt_one (by omega) (.slice A p c) (l.take p) s' [.slice A' s'.length c'] (fun _ => True) (fun _ => False) rfl rfl ⟨A', c', rfl, HSC.out, HSz.out⟩ (fun _ h => h.elim) (fun _ _ => trivial) (Kd.R_take HRz.out.rows.row (by omega)) HRz.out.below HRz.out.below.size (by rw [List.length_take]; omega) ?_
      intro v1 w1 hR1 hB1 hG1 hA1
      have eqo : (Value.slice A p c).ownBlock = (Value.slice A l.length c).ownBlock := by cases A <;> rfl
      rw [eqo] at hG1 hA1
      have hz0 := lt_of_block HRz.out.obj
      have hne3 : some gr ≠ (Value.slice A l.length c).ownBlock := fun he => (HRz.out.rown gr he.symm).2.2 rfl
      have hobj1 := (hG1.block gr hz0 hne3).trans HRz.out.obj
      refine hK.out _ _ ((blk_cell hobj1 3).trans rfl) (fun hHeld => ?_)
      clear hK K
      refine nm ?_
      refine on1 13 144 fun K hK => ?_
      have hrd := lreads (w1 := w1) HLz.out zz cm HZM.out HMC.out (by have := HML.out; omega) (fun ad _ hn hlt => hG1.block ad.block hlt (fun he => hn (HRz.out.rows.own _ he.symm)))
      rw [← HAH2.out, ← HML2.out] at hrd
      refine Kd.R_append_rows_step (kG S' wz) (Rr := fun (x : List Int) cs => ∃ A' c', cs = [.slice A' x.length c'] ∧ x.length ≤ c' ∧ Safe S' wz A' x) (w0 := w0) w0.heap.size rfl (.tmp 140) (.tmp 143) 25 28 (.slice none 0 0) 24 rfl Tryd.underlying25 infoL rfl Nat.zero_lt_one (by omega) v1 (l.take p ++ [s']) (m.drop zz) Ah2 ml2 mc2 (fun _ => True) (fun _ => False) rfl rfl hR1 hrd (fun _ _ h => h) (fun _ h => h.elim) (fun _ _ => trivial) hB1 (hB1.size) (by rw [List.length_append, List.length_take, List.length_singleton]; have := HML.out; have := HLL.out; have := HML2.out; omega) ?_
      intro v2 w2' hR2 hB2 hG2 hA2
      have hsz1 : wz.heap.size ≤ w1.heap.size := hG1.size
      have hsz2 : w1.heap.size ≤ w2'.heap.size := hG2.size
      have own1 : ∀ q, q < wz.heap.size → some q ≠ (Value.slice A l.length c).ownBlock → some q ≠ v1.ownBlock := fun q hq hne he => by
        rcases hA1 with h1 | ⟨b1, h1, h2⟩
        · exact hne (he.trans h1)
        · rw [h1] at he
          injection he with he
          omega
      have hG12 : ∀ q, q < wz.heap.size → some q ≠ (Value.slice A l.length c).ownBlock → w2'.heap[q]? = wz.heap[q]? := fun q hq hne => (hG2.block q (by omega) (own1 q hq hne)).trans (hG1.block q hq hne)
      have hA12 : v2.ownBlock = (Value.slice A l.length c).ownBlock ∨ ∃ q, v2.ownBlock = some q ∧ wz.heap.size ≤ q := by
        rcases hA2 with h1 | ⟨b1, h1, h2⟩
        · rcases hA1 with h3 | ⟨b3, h3, h4⟩
          · exact .inl (h1.trans h3)
          · exact .inr ⟨b3, h1.trans h3, h4⟩
        · exact .inr ⟨b1, h1, by omega⟩
      have hobj2 := (hG12 gr hz0 hne3).trans HRz.out.obj
      obtain ⟨hP1, hP2, hP3⟩ := HRz.out.put hR2 hG12 (Nat.le_trans hsz1 hsz2) hB2 hA12 (x : Int)
      obtain ⟨Av, cv, rfl⟩ := Kd.R_slice hR2
      refine hK.out _ _ ((blk_cell hobj2 3).trans rfl) (fun hHeld => ?_)
      clear hK K
      refine nm ?_
      refine pu 14 145 ?_
      refine pu 15 146 ?_
      have hc3 : w2'.cell? ⟨gr, 3, none⟩ = some (.slice A l.length c) := (blk_cell hobj2 3).trans rfl
      have hf3 : w2'.frozen? ⟨gr, 3, none⟩ = false := blk_frozen hobj2 3
      clear hHeld
      refine last_ (i := 16) (N := none) #[true, true, true, true, true, true, true, true, true, true, true, true, true, true, true, true, true] rfl rfl (by kernel_rfl) (by simp) (fun K hK => ?_)
      refine store_step rfl (w1 := w2'.setCell ⟨gr, 3, none⟩ (.slice Av (l.take p ++ [s'] ++ m.drop zz).length cv)) (by first | (go_simp; done) | (go_simp; rfl) | (go_simp; exact ⟨rfl, rfl⟩)) ?_
      refine hK.out _ _ ?_
      clear hK K
      refine norm_ (a' := ?_) ?_ ?_
      rotate_left
      · show Act.put _ none _ = _
        first | rfl | (simp only [Act.put]; rfl) | simp only [Act.put]
      refine done_ (by kernel_rfl) ?_
      have hobj3 := blk_set hobj2 3 (.slice Av (l.take p ++ [s'] ++ m.drop zz).length cv)
      have hc2 : (w2'.setCell ⟨gr, 3, none⟩ (.slice Av (l.take p ++ [s'] ++ m.drop zz).length cv)).cell? ⟨gr, 2, none⟩ = some (.int .u64 (e : Int)) := (blk_cell hobj3 2).trans (by simp)
      have hf2 : (w2'.setCell ⟨gr, 3, none⟩ (.slice Av (l.take p ++ [s'] ++ m.drop zz).length cv)).frozen? ⟨gr, 2, none⟩ = false := blk_frozen hobj3 2
      generalize (w2'.setCell ⟨gr, 3, none⟩ (.slice Av (l.take p ++ [s'] ++ m.drop zz).length cv)) = w9 at hP1 hP3 hc2 hf2 ⊢
      have HP1 := aq hP1
      have HP3 := aq hP3
      have HP2 := aq hP2
      clear hP1 hP2 hP3 hobj1 hobj2 hobj3 hc3 hf3 hG12 hA12 hG1 hA1 hB1 hR1 hG2 hA2 hB2 hR2 own1 hne3 eqo hrd
      go_wp2
      go_ret
      have est : s' = t := Option.some.inj (HMj.out.symm.trans HM.out)
      have ep : l.length - o = p := by have := HPO.out; omega
      have ez : j - o = zz := by have := HZO.out; omega
      have hGw : Grows S' _ w := ⟨HP2.out.1, fun i hi => (HP2.out.2 i hi).imp id fun h => Nat.le_trans HKz.out.size h⟩
      rw [ep, ez, ← est]
      exact ⟨_, _, _, rfl, HP1.out, HGr.out.trans (Nat.le_refl _) hGw, HKz.out.trans hGw HP3.out⟩
end Go.Proofs.YtfhcpniibiobgaaDoor.Qf
namespace Go.Proofs.YtfhcpniibiobgaaDoor.Qf
open Go.RowKit Go.Proofs.YtfhcpniibiobgaaDoorW.PrintWords Go.Proofs.YtfhcpniibiobgaaDoorW.PrintLast Go.Proofs.YtfhcpniibiobgaaDoorW.PrintMore
open Hs (CB CL at_L at_B infoB infoL R_of_blk)
set_option maxHeartbeats 4000000 in
set_option maxRecDepth 100000 in
theorem appendR_none (a0 a1 a2 a3 a4 a5 : Int) (w0 : World) (gr gf gs : Nat) (S : Nat → Prop) (w : World) (b e x : Nat) (vr vs : Value) (l : List (List Int)) (n0 : Nat) (As : Option Addr) (cs : Nat) (s : List Int) (Am : Option Addr) (cm : Nat) (m : List (List Int)) (low hgh : Nat) (h : RSt a0 a1 a2 a3 a4 a5 w0 gr gf gs S w (b : Int) (e : Int) vr vs l n0) (hs : Safe S w As s) (hsc : s.length ≤ cs) (hmr : LRow S w Am m) (hmc : m.length ≤ cm) (hml : m.length ≤ 500) (HG_ : Glob w0)
    (hmp : compact_getMergePath.f (b : Int) (e : Int) (x : Int) = some ((low : Int), (hgh : Int))) (hlh : hgh < low) (hh : low ≤ 64) (hll : l.length ≤ 500)
    (hones : bits_OnesCount64.f (Go.bits .and .u64 ((e : Int) / 2 ^ low) 0) = some 0) :
    Calls Tryd.prog 98 #[.pointer (some ⟨gr, 0, none⟩), .int .u64 (x : Int), .slice As s.length cs, .slice Am m.length cm, .func (.func 71) #[] #[.pointer (some ⟨gs, 0, none⟩)]] w fun en w' => ∃ vr' vs' S', en = .returned .nilIface ∧ RSt a0 a1 a2 a3 a4 a5 w0 gr gf gs S' w' (b : Int) (x : Int) vr' vs' (l ++ [s] ++ m) n0 ∧ Grows S S' w ∧ KeptS S' w w' := by
  have HR := aq h
  have HS := aq hs
  have HG := aq HG_
  have HMP := aq hmp
  have HON := aq hones
  have HLR := aq hmr
  have HMC := aq hmc
  have HML := aq hml
  have HLL := aq hll
  clear h hs HG_ hmp hones hmr
  obtain ⟨A, c, rfl, hlc, _⟩ := Kd.R_reads HR.out.rows.row
  have k0 : w.cell? ⟨gr, 0, none⟩ = some (.pointer (some ⟨gf, 0, none⟩)) := (blk_cell HR.out.obj 0).trans rfl
  have k1 : w.cell? ⟨gr, 1, none⟩ = some (.int .u64 (b : Int)) := (blk_cell HR.out.obj 1).trans rfl
  have k2 : w.cell? ⟨gr, 2, none⟩ = some (.int .u64 (e : Int)) := (blk_cell HR.out.obj 2).trans rfl
  have k3 : w.cell? ⟨gr, 3, none⟩ = some (.slice A l.length c) := (blk_cell HR.out.obj 3).trans rfl
  have t1 : decide ((hgh : Int) < (low : Int)) = true := decide_eq_true (by omega)
  have t1n : decide (hgh < low) = true := decide_eq_true (by omega)
  go_enter Tryd.func98, Tryd.ntmps98
  go_wp2
  go_region_held3 (fun w' => w'.cell? ⟨gr, 1, none⟩ = some (.int .u64 (b : Int)) ∧ w'.cell? ⟨gr, 2, none⟩ = some (.int .u64 (e : Int)) ∧ Below w.heap.size w w')
    (((try dsimp only); (try go_split_ands); (repeat' apply And.intro) <;> first | (go_keep; done) | exact below_drew (Below.refl _ _) | (refine pw_cell_below hb ?_; assumption) | (refine below_then ?_ ?_ hb; assumption; exact Below.size (by assumption))))
    ((go_at_call 115; have hB0 := aq (show Below w.heap.size w _ by go_split_ands; assumption); refine (compact_getMergePath.calls (b : Int) (e : Int) (x : Int) (low : Int) (hgh : Int) _ (Glob.below HG.out (below_sz' HR.out.below ((Below.mono hB0.out HR.out.below.size)))) HMP.out).mono ?_; rintro en w1 ⟨rfl, hd⟩; have hb := hd.below))
  go_split_ands
  have hB1 : Below w.heap.size w w1 := by assumption
  have HR1 := aq (HR.out.step hB1)
  have HS1 := aq (HS.out.below hB1)
  have HLR1 := aq (HLR.out.step (Grows.refl _ _) (KeptS.below hB1))
  have t3 : decide ((m.length : Int) < 0) = false := decide_eq_false (by omega)
  have k0 : w1.cell? ⟨gr, 0, none⟩ = some (.pointer (some ⟨gf, 0, none⟩)) := (blk_cell HR1.out.obj 0).trans rfl
  have k2 : w1.cell? ⟨gr, 2, none⟩ = some (.int .u64 (e : Int)) := (blk_cell HR1.out.obj 2).trans rfl
  have k3 : w1.cell? ⟨gr, 3, none⟩ = some (.slice A l.length c) := (blk_cell HR1.out.obj 3).trans rfl
  have t2 : decide ((l.length : Int) < 0) = false := decide_eq_false (by omega)
  go_wp2_with (first
    | (go_at_call 113; (with_reducible refine (bits_OnesCount64.calls _ _ _ HON.out).mono ?_); rintro en w2 ⟨rfl, hd⟩; have HR2 := aq (HR1.out.step hd.below); have HS2 := aq (HS1.out.below hd.below); have HLR2 := aq (HLR1.out.step (Grows.refl _ _) (KeptS.below hd.below)); have HK2 := aq (below_then hB1 hB1.size hd.below); have k0 := pw_cell_below hd.below k0; have k2 := pw_cell_below hd.below k2; have k3 := pw_cell_below hd.below k3; clear hd))
  (try simp only [Act.put, List.setIfInBounds_toArray, List.set_cons_zero, List.set_cons_succ])
  go_loopg [2, 13, 18, 19, 20] 0 (fun kq v2 v13 v18 v19 v20 wr => v2 = .slice As s.length cs ∧ v13 = .int .u64 ((e : Int) / 2 ^ low) ∧ v18 = .int .i64 (l.length : Int) ∧ v19 = .int .i64 0 ∧ v20 = .int .u64 (low : Int) ∧ Aside0 (RSt a0 a1 a2 a3 a4 a5 w0 gr gf gs S wr (b : Int) (e : Int) (.slice A l.length c) vs l n0) ∧ Aside0 (Safe S wr As s) ∧ Aside0 (KeptS S w wr) ∧ Aside0 (LRow S wr Am m))
  case atStart => exact ⟨rfl, rfl, rfl, rfl, rfl, HR2, HS2, ⟨KeptS.below HK2.out⟩, HLR2⟩
  case round =>
    clear k0 k1 k2 k3 HR2 HS2 HK2 HR1 HS1 HR HS HLR2 HLR1 HLR t1 t1n t2 t3
    obtain ⟨rfl, rfl, rfl, rfl, rfl, HR, HS, HKp, HLR⟩ := hrel
    rename World => wr
    have HSC := aq hsc
    go_wp2
    obtain ⟨iL, hiL, hsL⟩ := Option.map_eq_some_iff.1 infoL
    have hcut1 : ∀ W : World, (Instr.slice 25 (.slice A l.length c) none (some (.int .i64 (l.length : Int))) none).run Tryd.prog W = .ok (.slice A l.length c) W := fun W => by
      have h := cut_to (P := Tryd.prog) 25 28 .i64 Tryd.underlying25 hiL A l.length c (l.length : Int) (by omega) (by omega) hlc W
      rw [Int.toNat_natCast] at h
      exact h
    have hAm : (if cm = 0 then Am else Am.map (·.add (0 * 1))) = Am := by
      split
      · rfl
      · cases Am with
        | none => rfl
        | some ad => exact congrArg some (Addr.add_zero' ad)
    clear hiL hsL
    have HRz := aq (HR.out.step (below_drew (Below.refl wr.heap.size wr)))
    have HSz := aq (HS.out.below (below_drew (Below.refl wr.heap.size wr)))
    have HKz := aq (HKp.out.trans (Grows.refl _ _) (KeptS.below (S := S) (below_drew (Below.refl wr.heap.size wr))))
    have HLz := aq (HLR.out.step (Grows.refl _ _) (KeptS.below (S := S) (below_drew (Below.refl wr.heap.size wr))))
    refine start_ (n := 17) (S := fun w' => w'.cell? ⟨gr, 3, none⟩ = some (.slice A l.length c)) (ds := [16]) #[false, false, false, false, false, false, false, false, false, false, false, false, false, false, false, false, false] (by kernel_rfl) rfl rfl ((blk_cell HRz.out.obj 3).trans rfl) (fun hHeld => ?_)
    generalize wr.drew = wz at HRz HSz HKz HLz hHeld ⊢
    clear HR HS HKp HLR
    refine pu 0 131 ?_
    refine pu 1 132 ?_
    refine pu 2 133 ?_
    refine pu 3 134 ?_
    refine ta 4 135 hHeld ?_
    refine pu 5 136 ?_
    refine pu 6 137 ?_
    refine pu 7 138 ?_
    refine pu 10 141 ?_
    refine pu 11 142 ?_
    refine pu 12 143 ?_
    refine on1 8 139 fun K hK => ?_
    refine event_step rfl (v := .slice (some ⟨_, 0, none⟩) 1 1) (w1 := World.alloc _ (.cells #[.slice As s.length cs] 28)) (by first | (go_simp; done) | (go_simp; rfl) | (go_simp; exact ⟨rfl, rfl⟩)) ?_
    refine hK.out _ _ ((blk_cell (blk_below HRz.out.obj (below_alloc (Below.refl _ _) _)) 3).trans rfl) (fun hHeld => ?_)
    clear hK K
    refine nm ?_
    refine on1 9 140 fun K hK => ?_
    refine Kd.R_append_step (kG S wz) (w0 := w0) w0.heap.size rfl (.tmp 137) (.tmp 139) 25 28 (.slice none 0 0) 24 rfl Tryd.underlying25 infoL rfl Nat.zero_lt_one (by omega) (.slice A l.length c) l s [.slice As s.length cs] (fun _ => True) (fun _ => False) rfl rfl ⟨As, cs, rfl, HSC.out, HSz.out⟩ (fun _ h => h.elim) (fun _ _ => trivial) HRz.out.rows.row HRz.out.below HRz.out.below.size (by omega) ?_
    intro v1 w1 hR1 hB1 hG1 hA1
    have eqo : (Value.slice A l.length c).ownBlock = (Value.slice A l.length c).ownBlock := by cases A <;> rfl
    rw [eqo] at hG1 hA1
    have hz0 := lt_of_block HRz.out.obj
    have hne3 : some gr ≠ (Value.slice A l.length c).ownBlock := fun he => (HRz.out.rown gr he.symm).2.2 rfl
    have hobj1 := (hG1.block gr hz0 hne3).trans HRz.out.obj
    refine hK.out _ _ ((blk_cell hobj1 3).trans rfl) (fun hHeld => ?_)
    clear hK K
    refine nm ?_
    refine on1 13 144 fun K hK => ?_
    have hrd := lreads (w1 := w1) HLz.out 0 cm (Nat.zero_le _) HMC.out (by have := HML.out; omega) (fun ad _ hn hlt => hG1.block ad.block hlt (fun he => hn (HRz.out.rows.own _ he.symm)))
    rw [hAm, List.drop_zero, Nat.sub_zero] at hrd
    refine Kd.R_append_rows_step (kG S wz) (Rr := fun (x : List Int) cs => ∃ A' c', cs = [.slice A' x.length c'] ∧ x.length ≤ c' ∧ Safe S wz A' x) (w0 := w0) w0.heap.size rfl (.tmp 140) (.tmp 143) 25 28 (.slice none 0 0) 24 rfl Tryd.underlying25 infoL rfl Nat.zero_lt_one (by omega) v1 (l ++ [s]) m Am m.length cm (fun _ => True) (fun _ => False) rfl rfl hR1 hrd (fun _ _ h => h) (fun _ h => h.elim) (fun _ _ => trivial) hB1 (hB1.size) (by rw [List.length_append, List.length_singleton]; have := HML.out; have := HLL.out; omega) ?_
    intro v2 w2' hR2 hB2 hG2 hA2
    have hsz1 : wz.heap.size ≤ w1.heap.size := hG1.size
    have hsz2 : w1.heap.size ≤ w2'.heap.size := hG2.size
    have own1 : ∀ q, q < wz.heap.size → some q ≠ (Value.slice A l.length c).ownBlock → some q ≠ v1.ownBlock := fun q hq hne he => by
      rcases hA1 with h1 | ⟨b1, h1, h2⟩
      · exact hne (he.trans h1)
      · rw [h1] at he
        injection he with he
        omega
    have hG12 : ∀ q, q < wz.heap.size → some q ≠ (Value.slice A l.length c).ownBlock → w2'.heap[q]? = wz.heap[q]? := fun q hq hne => (hG2.block q (by omega) (own1 q hq hne)).trans (hG1.block q hq hne)
    have hA12 : v2.ownBlock = (Value.slice A l.length c).ownBlock ∨ ∃ q, v2.ownBlock = some q ∧ wz.heap.size ≤ q := by
      rcases hA2 with h1 | ⟨b1, h1, h2⟩
      · rcases hA1 with h3 | ⟨b3, h3, h4⟩
        · exact .inl (h1.trans h3)
        · exact .inr ⟨b3, h1.trans h3, h4⟩
      · exact .inr ⟨b1, h1, by omega⟩
    have hobj2 := (hG12 gr hz0 hne3).trans HRz.out.obj
    obtain ⟨hP1, hP2, hP3⟩ := HRz.out.put hR2 hG12 (Nat.le_trans hsz1 hsz2) hB2 hA12 (x : Int)
    obtain ⟨Av, cv, rfl⟩ := Kd.R_slice hR2
    refine hK.out _ _ ((blk_cell hobj2 3).trans rfl) (fun hHeld => ?_)
    clear hK K
    refine nm ?_
    refine pu 14 145 ?_
    refine pu 15 146 ?_
    have hc3 : w2'.cell? ⟨gr, 3, none⟩ = some (.slice A l.length c) := (blk_cell hobj2 3).trans rfl
    have hf3 : w2'.frozen? ⟨gr, 3, none⟩ = false := blk_frozen hobj2 3
    clear hHeld
    refine last_ (i := 16) (N := none) #[true, true, true, true, true, true, true, true, true, true, true, true, true, true, true, true, true] rfl rfl (by kernel_rfl) (by simp) (fun K hK => ?_)
    refine store_step rfl (w1 := w2'.setCell ⟨gr, 3, none⟩ (.slice Av (l ++ [s] ++ m).length cv)) (by first | (go_simp; done) | (go_simp; rfl) | (go_simp; exact ⟨rfl, rfl⟩)) ?_
    refine hK.out _ _ ?_
    clear hK K
    refine norm_ (a' := ?_) ?_ ?_
    rotate_left
    · show Act.put _ none _ = _
      first | rfl | (simp only [Act.put]; rfl) | simp only [Act.put]
    refine done_ (by kernel_rfl) ?_
    have hobj3 := blk_set hobj2 3 (.slice Av (l ++ [s] ++ m).length cv)
    have hc2 : (w2'.setCell ⟨gr, 3, none⟩ (.slice Av (l ++ [s] ++ m).length cv)).cell? ⟨gr, 2, none⟩ = some (.int .u64 (e : Int)) := (blk_cell hobj3 2).trans (by simp)
    have hf2 : (w2'.setCell ⟨gr, 3, none⟩ (.slice Av (l ++ [s] ++ m).length cv)).frozen? ⟨gr, 2, none⟩ = false := blk_frozen hobj3 2
    generalize (w2'.setCell ⟨gr, 3, none⟩ (.slice Av (l ++ [s] ++ m).length cv)) = w9 at hP1 hP3 hc2 hf2 ⊢
    have HP1 := aq hP1
    have HP3 := aq hP3
    have HP2 := aq hP2
    clear hP1 hP2 hP3 hobj1 hobj2 hobj3 hc3 hf3 hG12 hA12 hG1 hA1 hB1 hR1 hG2 hA2 hB2 hR2 own1 hne3 eqo hrd hAm
    go_wp2
    go_ret
    have hGw : Grows S _ w := ⟨HP2.out.1, fun i hi => (HP2.out.2 i hi).imp id fun h => Nat.le_trans HKz.out.size h⟩
    exact ⟨_, _, _, rfl, HP1.out, hGw, HKz.out.trans hGw HP3.out⟩
end Go.Proofs.YtfhcpniibiobgaaDoor.Qf
namespace Go.Proofs.YtfhcpniibiobgaaDoor.Qf
open Go.RowKit Go.Proofs.YtfhcpniibiobgaaDoorW.PrintWords Go.Proofs.YtfhcpniibiobgaaDoorW.PrintLast Go.Proofs.YtfhcpniibiobgaaDoorW.PrintMore
open Hs (CB CL at_L at_B infoB infoL R_of_blk)
theorem lrow_tail {S : Nat → Prop} {w : World} {A : Option Addr} {s : List Int} {m : List (List Int)} {d : Nat} (h : LRow S w A (s :: m)) (hd : m.length + 1 ≤ d) : LRow S w (if d = 1 then A else A.map (·.add (1 * 1))) m where
  get := fun j hj => by
    obtain ⟨ad, A0, c0, ea, e2, e3, e4, e5, e6⟩ := h.get (j + 1) (by simpa using hj)
    subst ea
    rw [if_neg (by omega)]
    rw [List.getD_cons_succ] at e2 e3 e4
    have hbk : (ad.add (1 * 1)).block = ad.block := by unfold Addr.add; split <;> rfl
    refine ⟨ad.add (1 * 1), A0, c0, rfl, ?_, e3, e4, by rw [hbk]; exact e5, by rw [hbk]; exact e6⟩
    rw [Addr.add_add, show 1 * 1 + j = j + 1 by omega]
    exact e2
set_option maxHeartbeats 1000000 in
set_option maxRecDepth 100000 in
theorem appendRange_nil (a0 a1 a2 a3 a4 a5 : Int) (w0 : World) (gr gf gs gy : Nat) (S : Nat → Prop) (w : World) (b e x : Nat) (vr vs : Value) (l : List (List Int)) (n0 d : Nat) (Ay : Option Addr) (h : RSt a0 a1 a2 a3 a4 a5 w0 gr gf gs S w (b : Int) (e : Int) vr vs l n0) (hy : w.heap[gy]? = some (.cells #[.pointer (some ⟨gf, 0, none⟩), .int .u64 (e : Int), .int .u64 (x : Int), .slice Ay 0 d] 151 (0, 0))) :
    Calls Tryd.prog 70 #[.pointer (some ⟨gr, 0, none⟩), .pointer (some ⟨gy, 0, none⟩), .func (.func 71) #[] #[.pointer (some ⟨gs, 0, none⟩)]] w fun en w' => en = .returned .nilIface ∧ Below w.heap.size w w' := by
  have hpn := ptr_neq gf
  have hee : ((e : Int) != (e : Int)) = false := by rw [bne_eq_false_iff_eq]
  have k0 : w.cell? ⟨gr, 0, none⟩ = some (.pointer (some ⟨gf, 0, none⟩)) := (blk_cell h.obj 0).trans rfl
  have k2 : w.cell? ⟨gr, 2, none⟩ = some (.int .u64 (e : Int)) := (blk_cell h.obj 2).trans rfl
  have y0 : w.cell? ⟨gy, 0, none⟩ = some (.pointer (some ⟨gf, 0, none⟩)) := (blk_cell hy 0).trans rfl
  have y1 : w.cell? ⟨gy, 1, none⟩ = some (.int .u64 (e : Int)) := (blk_cell hy 1).trans rfl
  have y2 : w.cell? ⟨gy, 2, none⟩ = some (.int .u64 (x : Int)) := (blk_cell hy 2).trans rfl
  have y3 : w.cell? ⟨gy, 3, none⟩ = some (.slice Ay 0 d) := (blk_cell hy 3).trans rfl
  clear h hy
  go_enter Tryd.func70, Tryd.ntmps70
  go_wp2
  go_quiet (fail)
  rename Nat => nq1
  go_wp2
  go_quiet (fail)
  rename Nat => nq2
  go_wp2
  go_ret
  exact ⟨rfl, by repeat (first | (with_reducible first | exact Below.refl _ _ | apply pw_below_drewN | apply below_drew1) | exact Below.refl _ _)⟩
set_option maxHeartbeats 4000000 in
set_option maxRecDepth 100000 in
theorem appendRange_of (a0 a1 a2 a3 a4 a5 : Int) (w0 : World) (gr gf gs gy : Nat) (S : Nat → Prop) (w : World) (b e x : Nat) (vr vs : Value) (l l' : List (List Int)) (n0 n1 : Nat) (ad : Addr) (d : Nat) (s : List Int) (m : List (List Int)) (h : RSt a0 a1 a2 a3 a4 a5 w0 gr gf gs S w (b : Int) (e : Int) vr vs l n0) (hy : w.heap[gy]? = some (.cells #[.pointer (some ⟨gf, 0, none⟩), .int .u64 (e : Int), .int .u64 (x : Int), .slice (some ad) (m.length + 1) d] 151 (0, 0))) (hyS : ¬ S gy) (hrow : LRow S w (some ad) (s :: m)) (hd : m.length + 1 ≤ d)
    (hA : ∀ (As : Option Addr) (cs : Nat) (w1 : World), s.length ≤ cs → RSt a0 a1 a2 a3 a4 a5 w0 gr gf gs S w1 (b : Int) (e : Int) vr vs l n0 → Safe S w1 As s → LRow S w1 (if d = 1 then some ad else (some ad).map (·.add (1 * 1))) m →
      Calls Tryd.prog 98 #[.pointer (some ⟨gr, 0, none⟩), .int .u64 (x : Int), .slice As s.length cs, .slice (if d = 1 then some ad else (some ad).map (·.add (1 * 1))) m.length (d - 1), .func (.func 71) #[] #[.pointer (some ⟨gs, 0, none⟩)]] w1 fun en w' => ∃ vr' vs' S', en = .returned .nilIface ∧ RSt a0 a1 a2 a3 a4 a5 w0 gr gf gs S' w' (b : Int) (x : Int) vr' vs' l' n1 ∧ Grows S S' w1 ∧ KeptS S' w1 w') :
    Calls Tryd.prog 70 #[.pointer (some ⟨gr, 0, none⟩), .pointer (some ⟨gy, 0, none⟩), .func (.func 71) #[] #[.pointer (some ⟨gs, 0, none⟩)]] w fun en w' => ∃ vr' vs' S', en = .returned .nilIface ∧ RSt a0 a1 a2 a3 a4 a5 w0 gr gf gs S' w' (b : Int) (x : Int) vr' vs' l' n1 ∧ Grows S S' w ∧ KeptS S' w w' := by
  obtain ⟨ad0, As, cs, ea0, hx0, hsl, hs, hrB, hrS⟩ := hrow.get 0 (by simp)
  injection ea0 with ea0
  subst ea0
  rw [List.getD_cons_zero] at hx0 hsl hs
  rw [Addr.add_zero'] at hx0
  have HR := aq h
  have HY := aq hy
  have HS := aq hs
  have HA := aq hA
  have HYS := aq hyS
  have HRS := aq hrS
  have HRB := aq hrB
  have HSL := aq hsl
  have HLT := aq (lrow_tail hrow hd)
  obtain ⟨iL, hiL, hsL⟩ := Option.map_eq_some_iff.1 infoL
  obtain ⟨Ah, hAh⟩ : ∃ Ah, Ah = (if d = 1 then some ad else (some ad).map (·.add (1 * 1))) := ⟨_, rfl⟩
  rw [← hAh] at HLT HA
  have hcut : ∀ W : World, (Instr.slice 25 (.slice (some ad) (m.length + 1) d) (some (.int .i64 1)) none none).run Tryd.prog W = .ok (.slice Ah m.length (d - 1)) W := fun W => by
    have h := cut_from (P := Tryd.prog) 25 28 .i64 Tryd.underlying25 hiL 1 (by simp only [Prod.mk.injEq] at hsL; exact hsL.2.1) (some ad) (m.length + 1) d 1 (by omega) (by omega) W
    rw [hAh]
    exact h
  clear hiL hsL hs hA hyS hrS hrB hsl hrow hAh
  have hpn := ptr_neq gf
  have hee : ((e : Int) != (e : Int)) = false := by rw [bne_eq_false_iff_eq]
  have hne : (((m.length + 1 : Nat) : Int) == 0) = false := beq_eq_false_iff_ne.2 (by omega)
  have hne2 : (((m.length : Int) + 1) == 0) = false := beq_eq_false_iff_ne.2 (by omega)
  have hpos : (0 : Int) < ((m.length + 1 : Nat) : Int) := by omega
  have hpos2 : (0 : Int) < (m.length : Int) + 1 := by omega
  have k0 : w.cell? ⟨gr, 0, none⟩ = some (.pointer (some ⟨gf, 0, none⟩)) := (blk_cell h.obj 0).trans rfl
  have k2 : w.cell? ⟨gr, 2, none⟩ = some (.int .u64 (e : Int)) := (blk_cell h.obj 2).trans rfl
  have y0 : w.cell? ⟨gy, 0, none⟩ = some (.pointer (some ⟨gf, 0, none⟩)) := (blk_cell hy 0).trans rfl
  have y1 : w.cell? ⟨gy, 1, none⟩ = some (.int .u64 (e : Int)) := (blk_cell hy 1).trans rfl
  have y2 : w.cell? ⟨gy, 2, none⟩ = some (.int .u64 (x : Int)) := (blk_cell hy 2).trans rfl
  have y3 : w.cell? ⟨gy, 3, none⟩ = some (.slice (some ad) (m.length + 1) d) := (blk_cell hy 3).trans rfl
  clear h hy
  go_enter Tryd.func70, Tryd.ntmps70
  go_wp2
  go_quiet (fail)
  rename Nat => nq1
  go_wp2
  go_quiet (fail)
  rename Nat => nq2
  go_wp2
  have HBq := aq (show Below w.heap.size w (w.drewN (nq1 + nq2)).drew by repeat (first | (with_reducible first | exact Below.refl _ _ | apply pw_below_drewN | apply below_drew1) | exact Below.refl _ _))
  have HRq := aq (HR.out.step HBq.out)
  have HSq := aq (HS.out.below HBq.out)
  have HLq := aq (HLT.out.step (Grows.refl _ _) (KeptS.below HBq.out))
  have HYq := aq (blk_below HY.out HBq.out)
  have hrowq := pw_cell_below HBq.out hx0
  have HKq : Aside0 (KeptS S w (w.drewN (nq1 + nq2)).drew) := ⟨KeptS.below HBq.out⟩
  have hszq : w.heap.size ≤ (w.drewN (nq1 + nq2)).drew.heap.size := HBq.out.size
  refine start_ (n := 19) (S := fun w' => w'.cell? ⟨gy, 2, none⟩ = some (.int .u64 (x : Int)) ∧ w'.cell? ⟨gy, 3, none⟩ = some (.slice (some ad) (m.length + 1) d) ∧ w'.cell? ad = some (.slice As s.length cs)) (ds := []) #[false, false, false, false, false, false, false, false, false, false, false, false, false, false, false, false, false, false, false] (by kernel_rfl) rfl rfl ⟨bc HYq 2, bc HYq 3, hrowq⟩ (fun hHeld => ?_)
  generalize (w.drewN (nq1 + nq2)).drew = wz at HBq HRq HSq HLq HYq HKq hszq hrowq hHeld ⊢
  clear k0 k2 y0 y1 y2 y3 hx0 HR HS HLT
  refine pu 0 37 ?_
  refine pu 1 38 ?_
  refine pu 2 39 ?_
  refine pu 3 40 ?_
  refine ta 4 41 hHeld ?_
  refine pu 5 42 ?_
  refine pu 6 43 ?_
  refine pu 7 44 ?_
  refine ta 8 45 hHeld ?_
  refine pu 9 46 ?_
  refine ta 10 47 hHeld ?_
  refine pu 11 48 ?_
  refine pu 12 49 ?_
  refine pu 13 50 ?_
  refine ta 14 51 hHeld ?_
  refine pu 15 52 ?_
  refine pu 16 53 ?_
  refine on1 17 54 fun K hK => ?_
  refine gS Tryd.func98 #[.pointer (some ⟨gr, 0, none⟩), .int .u64 (x : Int), .slice As s.length cs, .slice Ah m.length (d - 1), .func (.func 71) #[] #[.pointer (some ⟨gs, 0, none⟩)]] ?_
  refine (HA.out As cs wz HSL.out HRq.out HSq.out HLq.out).mono ?_
  rintro en w7 ⟨vr7, vs7, S7, rfl, hR7, hG7, hK7⟩
  refine ⟨_, rfl, ?_⟩
  have n7 : ∀ g, g < w.heap.size → ¬ S g → ¬ S7 g := fun g hg hn hs => by
    rcases hG7.2 g hs with h1 | h1
    · exact hn h1
    · omega
  have hyl := lt_of_block HY.out
  have HY7 := (hK7.block gy (by omega) (n7 gy hyl HYS.out)).trans HYq.out
  have hrow7 : w7.cell? ad = some (.slice As s.length cs) := by
    rw [← hrowq]
    unfold World.cell?
    rw [hK7.block ad.block (by have := HRB.out; omega) (n7 _ HRB.out HRS.out)]
  refine hK.out _ _ ⟨(blk_cell HY7 2).trans rfl, (blk_cell HY7 3).trans rfl, hrow7⟩ (fun hHeld => ?_)
  clear hK K
  refine nm ?_
  refine pu 18 6 ?_
  refine done_ (by kernel_rfl) ?_
  try go_wp2
  go_ret
  have hG : Grows S S7 w := ⟨hG7.1, fun i hi => (hG7.2 i hi).imp id fun h => Nat.le_trans hszq h⟩
  exact ⟨vr7, vs7, S7, rfl, hR7, hG, HKq.out.trans hG hK7⟩
end Go.Proofs.YtfhcpniibiobgaaDoor.Qf
namespace Go.Proofs.YtfhcpniibiobgaaDoor.Qf
open Go.RowKit Go.Proofs.YtfhcpniibiobgaaDoorW.PrintWords Go.Proofs.YtfhcpniibiobgaaDoorW.PrintLast Go.Proofs.YtfhcpniibiobgaaDoorW.PrintMore
open Hs (CB CL at_L at_B infoB infoL R_of_blk)
open Go.Proofs.YtfhcpniibiobgaaDoor.M (pc pc_add)
theorem allocs5 (w : World) (c1 : Array Value) (t1 : Nat) (c2 : Array Value) (t2 : Nat) (c3 : Array Value) (t3 : Nat) (c4 : Array Value) (t4 : Nat) (c5 : Array Value) (t5 : Nat) : Below w.heap.size w (((((w.alloc (.cells c1 t1)).alloc (.cells c2 t2)).alloc (.cells c3 t3)).alloc (.cells c4 t4)).alloc (.cells c5 t5)) ∧ (((((w.alloc (.cells c1 t1)).alloc (.cells c2 t2)).alloc (.cells c3 t3)).alloc (.cells c4 t4)).alloc (.cells c5 t5)).heap[w.heap.size]? = some (.cells c1 t1 (0, 0)) ∧ (((((w.alloc (.cells c1 t1)).alloc (.cells c2 t2)).alloc (.cells c3 t3)).alloc (.cells c4 t4)).alloc (.cells c5 t5)).heap[w.heap.size + 1]? = some (.cells c2 t2 (0, 0)) ∧ (((((w.alloc (.cells c1 t1)).alloc (.cells c2 t2)).alloc (.cells c3 t3)).alloc (.cells c4 t4)).alloc (.cells c5 t5)).heap[w.heap.size + 1 + 1]? = some (.cells c3 t3 (0, 0)) ∧ (((((w.alloc (.cells c1 t1)).alloc (.cells c2 t2)).alloc (.cells c3 t3)).alloc (.cells c4 t4)).alloc (.cells c5 t5)).heap[w.heap.size + 1 + 1 + 1]? = some (.cells c4 t4 (0, 0)) ∧ (((((w.alloc (.cells c1 t1)).alloc (.cells c2 t2)).alloc (.cells c3 t3)).alloc (.cells c4 t4)).alloc (.cells c5 t5)).heap[w.heap.size + 1 + 1 + 1 + 1]? = some (.cells c5 t5 (0, 0)) := by
  have s1 : (w.alloc (.cells c1 t1)).heap.size = w.heap.size + 1 := by simp
  have s2 : ((w.alloc (.cells c1 t1)).alloc (.cells c2 t2)).heap.size = w.heap.size + 1 + 1 := by simp
  have s3 : (((w.alloc (.cells c1 t1)).alloc (.cells c2 t2)).alloc (.cells c3 t3)).heap.size = w.heap.size + 1 + 1 + 1 := by simp
  have s4 : ((((w.alloc (.cells c1 t1)).alloc (.cells c2 t2)).alloc (.cells c3 t3)).alloc (.cells c4 t4)).heap.size = w.heap.size + 1 + 1 + 1 + 1 := by simp
  refine ⟨(below_alloc (below_alloc (below_alloc (below_alloc (below_alloc (Below.refl _ _) (.cells c1 t1)) (.cells c2 t2)) (.cells c3 t3)) (.cells c4 t4)) (.cells c5 t5)), ?_, ?_, ?_, ?_, ?_⟩
  · exact blk_below (heap_alloc_new w (.cells c1 t1)) (below_alloc (below_alloc (below_alloc (below_alloc (Below.refl _ _) (.cells c2 t2)) (.cells c3 t3)) (.cells c4 t4)) (.cells c5 t5))
  · have h := blk_below (heap_alloc_new (w.alloc (.cells c1 t1)) (.cells c2 t2)) (below_alloc (below_alloc (below_alloc (Below.refl _ _) (.cells c3 t3)) (.cells c4 t4)) (.cells c5 t5))
    rwa [s1] at h
  · have h := blk_below (heap_alloc_new ((w.alloc (.cells c1 t1)).alloc (.cells c2 t2)) (.cells c3 t3)) (below_alloc (below_alloc (Below.refl _ _) (.cells c4 t4)) (.cells c5 t5))
    rwa [s2] at h
  · have h := blk_below (heap_alloc_new (((w.alloc (.cells c1 t1)).alloc (.cells c2 t2)).alloc (.cells c3 t3)) (.cells c4 t4)) (below_alloc (Below.refl _ _) (.cells c5 t5))
    rwa [s3] at h
  · have h := blk_below (heap_alloc_new ((((w.alloc (.cells c1 t1)).alloc (.cells c2 t2)).alloc (.cells c3 t3)).alloc (.cells c4 t4)) (.cells c5 t5)) (Below.refl _ _)
    rwa [s4] at h
def MGen (a0 a1 a2 a3 a4 a5 : Int) (b e x : Nat) (l m0 l' : List (List Int)) : Prop :=
  (m0 = [] ∧ l' = l ∧ x = e) ∨ ∃ s m low hgh, m0 = s :: m ∧ compact_getMergePath.f (b : Int) (e : Int) (x : Int) = some (((low : Nat) : Int), ((hgh : Nat) : Int)) ∧
    ((hgh < low ∧ low ≤ 64 ∧ bits_OnesCount64.f (Go.bits .and .u64 ((e : Int) / 2 ^ low) 0) = some 0 ∧ l' = l ++ [s] ++ m) ∨
    ∃ (n o : Nat) (t : List Int), low + n = hgh ∧ hgh ≤ 64 ∧ o = pc n (e / 2 ^ low) ∧ o ≤ l.length ∧ n - o ≤ m.length ∧ bits_OnesCount64.f (Go.bits .and .u64 ((e : Int) / 2 ^ low) (IntKind.u64.wrap (IntKind.u64.wrap ((2 : Int) ^ n) - 1))) = some (o : Int) ∧ mrO a0 a1 a2 a3 a4 a5 l m (e / 2 ^ low) n s = some t ∧ l' = l.take (l.length - o) ++ [t] ++ m.drop (n - o))
theorem appendRange_any {a0 a1 a2 a3 a4 a5 : Int} {w0 : World} {gr gf gs gy : Nat} {S : Nat → Prop} {w : World} {b e x : Nat} {vr vs : Value} {l m0 l' : List (List Int)} {n0 d : Nat} {Ay : Option Addr} (hst : MGen a0 a1 a2 a3 a4 a5 b e x l m0 l') (h : RSt a0 a1 a2 a3 a4 a5 w0 gr gf gs S w (b : Int) (e : Int) vr vs l n0) (hy : w.heap[gy]? = some (.cells #[.pointer (some ⟨gf, 0, none⟩), .int .u64 (e : Int), .int .u64 (x : Int), .slice Ay m0.length d] 151 (0, 0))) (hyS : ¬ S gy) (hrow : LRow S w Ay m0) (hd : m0.length ≤ d) (HG_ : Glob w0) (he : e < 18446744073709551616) (hl : l.length ≤ 400) (hm : m0.length ≤ 400) (hn : n0 ≤ 400) :
    Calls Tryd.prog 70 #[.pointer (some ⟨gr, 0, none⟩), .pointer (some ⟨gy, 0, none⟩), .func (.func 71) #[] #[.pointer (some ⟨gs, 0, none⟩)]] w fun en w' => ∃ vr' vs' S' n1, en = .returned .nilIface ∧ RSt a0 a1 a2 a3 a4 a5 w0 gr gf gs S' w' (b : Int) (x : Int) vr' vs' l' n1 ∧ Grows S S' w ∧ KeptS S' w w' := by
  rcases hst with ⟨rfl, rfl, rfl⟩ | ⟨s, m, low, hgh, rfl, hmp, hc⟩
  · exact (appendRange_nil a0 a1 a2 a3 a4 a5 w0 gr gf gs gy S w b x x vr vs l' n0 d Ay h hy).mono fun _ _ ⟨h1, hb⟩ => ⟨vr, vs, S, n0, h1, h.step hb, Grows.refl _ _, KeptS.below hb⟩
  · obtain ⟨ad, _, _, rfl, _⟩ := hrow.get 0 (by simp)
    rw [List.length_cons] at hd hm
    rcases hc with ⟨h1, h2, h3, rfl⟩ | ⟨n, o, t, h1, h2, h3, h4, h5, h6, h7, rfl⟩
    · exact (appendRange_of a0 a1 a2 a3 a4 a5 w0 gr gf gs gy S w b e x vr vs l (l ++ [s] ++ m) n0 n0 ad d s m h hy hyS hrow hd (fun As cs w1 hsc hR hS hL => appendR_none a0 a1 a2 a3 a4 a5 w0 gr gf gs S w1 b e x vr vs l n0 As cs s _ (d - 1) m low hgh hR hS hsc hL (by omega) (by omega) HG_ hmp h1 h2 (by omega) h3)).mono fun _ _ ⟨v1, v2, S1, q⟩ => ⟨v1, v2, S1, n0, q⟩
    · exact (appendRange_of a0 a1 a2 a3 a4 a5 w0 gr gf gs gy S w b e x vr vs l (l.take (l.length - o) ++ [t] ++ m.drop (n - o)) n0 (n0 + n) ad d s m h hy hyS hrow hd (fun As cs w1 hsc hR hS hL => appendR_gen a0 a1 a2 a3 a4 a5 w0 gr gf gs S w1 b e x vr vs l n0 As cs s t _ (d - 1) m low hgh n o hR hS hsc hL (by omega) (by omega) HG_ he hmp (by omega) h1 h2 h3 h4 h5 (by omega) (by omega) h6 h7)).mono fun _ _ ⟨v1, v2, S1, q⟩ => ⟨v1, v2, S1, n0 + n, q⟩
theorem mf1R (first : Value) (W : World) : (Instr.makeFunc (.func 53) #[first] #[]).run Tryd.prog W = .ok (.func (.func 53) #[first] #[]) W := rfl
theorem mfR (cap : Value) (W : World) : (Instr.makeFunc (.func 71) #[] #[cap]).run Tryd.prog W = .ok (.func (.func 71) #[] #[cap]) W := rfl
set_option maxHeartbeats 4000000 in
set_option maxRecDepth 100000 in
theorem appendRange2_calls (a0 a1 a2 a3 a4 a5 : Int) (b e E1 : Nat) (A : Option Addr) (c : Nat) (l0 : List (List Int)) (Am : Option Addr) (cm : Nat) (m0 : List (List Int)) (l' : List (List Int)) (k : Nat) (w : World) (hc : l0.length ≤ c) (hcm : m0.length ≤ cm) (hl : CL w A l0) (hM : CL w Am m0) (HG_ : Glob w) (ht0 : impl_texts.f k l0 = some l0) (htM : impl_texts.f k m0 = some m0) (hte : impl_texts.f k l' = some l') (hbe : b ≤ e) (hex : e ≤ E1) (hsz : compact_RangeSize.f (b : Int) (e : Int) = some (l0.length : Int)) (hsz1 : compact_RangeSize.f (e : Int) (E1 : Int) = some (m0.length : Int)) (he : e < 18446744073709551616) (hl0 : l0.length ≤ 400) (hm0 : m0.length ≤ 400) (hst : MGen a0 a1 a2 a3 a4 a5 b e E1 l0 m0 l') :
    Calls Tryd.prog 33 #[.agg #[.int .i64 a0, .int .i64 a1, .int .i64 a2, .int .u64 a3, .int .u64 a4, .int .u64 a5], .agg #[.int .u64 (b : Nat), .int .u64 (e : Nat), .slice A l0.length c], .agg #[.int .u64 (e : Nat), .int .u64 (E1 : Nat), .slice Am m0.length cm]] w fun en w' => ∃ v vs, en = .returned (.tuple #[.agg #[.int .u64 (b : Nat), .int .u64 (E1 : Nat), v], vs, .bool true]) ∧ Kd.S (Kd.slice 5 (Kd.int .u8)) 28 w' w.heap.size (fun _ => True) v l' ∧ Below w.heap.size w w' := by
  have HL := aq hl
  have HM := aq hM
  have HG := aq HG_
  have HT0 := aq ht0
  have HTM := aq htM
  have HTE := aq hte
  have HSZ := aq hsz
  have HS1 := aq hsz1
  have HE := aq he
  have HST := aq hst
  have HBE := aq hbe
  have HL0 := aq hl0
  have HM0 := aq hm0
  have HEE := aq hex
  clear hl hM HG_ ht0 htM hte hsz hsz1 hst hbe hl0 hm0 hex he
  have hmf1 := mf1R
  have hmfR := mfR
  go_enter Tryd.func33, Tryd.ntmps33
  go_wp2
  obtain ⟨hB1, _, hRB, hOB, hQB, hFB⟩ := allocs5 w #[.int .i64 a0, .int .i64 a1, .int .i64 a2, .int .u64 a3, .int .u64 a4, .int .u64 a5] 24 #[.int .u64 (b : Nat), .int .u64 (e : Nat), .slice A l0.length c] 35 #[.int .u64 (e : Nat), .int .u64 (E1 : Nat), .slice Am m0.length cm] 35 #[.int .u64 0, .int .u64 0, .slice none 0 0] 35 #[.func (.func 53) #[.agg #[.int .i64 a0, .int .i64 a1, .int .i64 a2, .int .u64 a3, .int .u64 a4, .int .u64 a5]] #[]] 100
  generalize hW1 : (((((w.alloc (.cells #[.int .i64 a0, .int .i64 a1, .int .i64 a2, .int .u64 a3, .int .u64 a4, .int .u64 a5] 24)).alloc (.cells #[.int .u64 (b : Nat), .int .u64 (e : Nat), .slice A l0.length c] 35)).alloc (.cells #[.int .u64 (e : Nat), .int .u64 (E1 : Nat), .slice Am m0.length cm] 35)).alloc (.cells #[.int .u64 0, .int .u64 0, .slice none 0 0] 35)).alloc (.cells #[.func (.func 53) #[.agg #[.int .i64 a0, .int .i64 a1, .int .i64 a2, .int .u64 a3, .int .u64 a4, .int .u64 a5]] #[]] 100)) = W1 at hB1 hRB hOB hQB hFB ⊢
  have hsz1 : w.heap.size + 1 + 1 + 1 + 1 < W1.heap.size := lt_of_block hFB
  have HB1 := aq hB1
  have RB := aq hRB
  have OB := aq hOB
  have QB := aq hQB
  have FB := aq hFB
  clear hB1 hRB hOB hQB hFB hW1
  have HL1 := aq (Kd.C_below HL.out HB1.out)
  have r0 : W1.cell? ⟨w.heap.size + 1, 0, none⟩ = some (.int .u64 (b : Nat)) := bc RB 0
  have r1 : W1.cell? ⟨w.heap.size + 1, 1, none⟩ = some (.int .u64 (e : Nat)) := bc RB 1
  have r2 : W1.cell? ⟨w.heap.size + 1, 2, none⟩ = some (.slice A l0.length c) := bc RB 2
  go_region_held3 (fun w' => w'.cell? ⟨w.heap.size + 1, 0, none⟩ = some (.int .u64 (b : Nat)) ∧ w'.cell? ⟨w.heap.size + 1, 1, none⟩ = some (.int .u64 (e : Nat)) ∧ w'.cell? ⟨w.heap.size + 1, 2, none⟩ = some (.slice A l0.length c) ∧ Below W1.heap.size W1 w')
    (((try dsimp only); (try go_split_ands); (repeat' apply And.intro) <;> first | (go_keep; done) | exact below_drew (Below.refl _ _) | (refine pw_cell_below hb ?_; assumption) | (refine below_then ?_ ?_ hb; assumption; exact Below.size (by assumption))))
    (first
      | (go_at_call 48; have hB0 := aq (show Below W1.heap.size W1 _ by go_split_ands; assumption); refine (impl_texts.calls k A c l0 l0 _ (Kd.C_below HL1.out hB0.out) hc HT0.out).mono ?_; rintro e' w2 ⟨v1, rfl, hS, hb⟩; obtain ⟨B2, d2, rfl, _, _⟩ := Kd.S_reads hS; have HS2 := aq (Kd.S_lower hS hB0.out.size); have HB2 := aq (below_then hB0.out hB0.out.size hb); clear hS)
      | (go_at_call 54; refine (newRange_calls (w.heap.size + 1 + 1 + 1 + 1) b e B2 l0.length d2 HBE.out HSZ.out _).mono ?_; rintro e' w3 ⟨g, rfl, hg1, hg2, hg3, hb⟩; have HG1 := aq hg1; have HG2 := aq hg2; have HG3 := aq hg3; have HB23 := aq hb; clear hg3 hg1 hg2))
  go_split_ands
  clear r0 r1 r2
  have HB3 : Aside0 (Below W1.heap.size W1 w3) := ⟨by assumption⟩
  go_wp2
  have HM3 := aq (Kd.C_below HM.out (below_then HB1.out HB1.out.size HB3.out))
  have r0 : w3.cell? ⟨w.heap.size + 1 + 1, 0, none⟩ = some (.int .u64 (e : Nat)) := (blk_cell (blk_below OB.out HB3.out) 0).trans rfl
  have r1 : w3.cell? ⟨w.heap.size + 1 + 1, 1, none⟩ = some (.int .u64 (E1 : Nat)) := (blk_cell (blk_below OB.out HB3.out) 1).trans rfl
  have r2 : w3.cell? ⟨w.heap.size + 1 + 1, 2, none⟩ = some (.slice Am m0.length cm) := (blk_cell (blk_below OB.out HB3.out) 2).trans rfl
  go_region_held3 (fun w' => w'.cell? ⟨w.heap.size + 1 + 1, 0, none⟩ = some (.int .u64 (e : Nat)) ∧ w'.cell? ⟨w.heap.size + 1 + 1, 1, none⟩ = some (.int .u64 (E1 : Nat)) ∧ w'.cell? ⟨w.heap.size + 1 + 1, 2, none⟩ = some (.slice Am m0.length cm) ∧ Below w3.heap.size w3 w')
    (((try dsimp only); (try go_split_ands); (repeat' apply And.intro) <;> first | (go_keep; done) | exact below_drew (Below.refl _ _) | (refine pw_cell_below hb ?_; assumption) | (refine below_then ?_ ?_ hb; assumption; exact Below.size (by assumption))))
    (first
      | (go_at_call 48; have hB0 := aq (show Below w3.heap.size w3 _ by go_split_ands; assumption); refine (impl_texts.calls k Am cm m0 m0 _ (Kd.C_below HM3.out hB0.out) hcm HTM.out).mono ?_; rintro e' w4 ⟨v4, rfl, hS, hb⟩; obtain ⟨B4, d4, rfl, hd4, _⟩ := Kd.S_reads hS; have HS4 := aq (Kd.S_lower hS hB0.out.size); have HB4 := aq (below_then hB0.out hB0.out.size hb); have HD4 := aq hd4; clear hS hd4)
      | (go_at_call 54; refine (newRange_calls (w.heap.size + 1 + 1 + 1 + 1) e E1 B4 m0.length d4 HEE.out HS1.out _).mono ?_; rintro e' w5 ⟨gy, rfl, hg1, hg2, hg3, hb⟩; have HY1 := aq hg1; have HY2 := aq hg2; have HY3 := aq hg3; have HB45 := aq hb; clear hg3 hg1 hg2))
  go_split_ands
  clear r0 r1 r2
  have HB5 : Aside0 (Below w3.heap.size w3 w5) := ⟨by assumption⟩
  have HB25 := aq (below_step HB23.out HB5.out)
  have HI := aq (RSt.init HB1.out FB.out HS2.out HB2.out HG1.out (Nat.lt_of_lt_of_le HG2.out HB5.out.size) (blk_below HG3.out HB5.out) HB25.out)
  have own2 : ∀ q, (Value.slice B2 l0.length d2).ownBlock = some q → W1.heap.size ≤ q ∧ q < w2.heap.size := fun q hq => ⟨Kd.S_base HS2.out _ hq, Kd.R_lt (Kd.S_R HS2.out) q hq⟩
  have s12 := HB2.out.size
  have s23 := HB23.out.size
  have s34 := HB4.out.size
  have s45 := HB45.out.size
  have HNG : Aside0 (¬ (w.heap.size + 1 + 1 + 1 = g ∨ w.heap.size + 1 + 1 + 1 = w5.heap.size ∨ (Value.slice B2 l0.length d2).ownBlock = some (w.heap.size + 1 + 1 + 1))) := ⟨fun hk => by
    have q1 := HG1.out
    rcases hk with h1 | h1 | hk
    · omega
    · omega
    · have := (own2 _ hk).1
      omega⟩
  have HNY : Aside0 (¬ (gy = g ∨ gy = w5.heap.size ∨ (Value.slice B2 l0.length d2).ownBlock = some gy)) := ⟨fun hk => by
    have q1 := HG2.out
    have q2 := HY1.out
    have q3 := HY2.out
    rcases hk with h1 | h1 | hk
    · omega
    · omega
    · have := (own2 _ hk).2
      omega⟩
  have hb58 : Below w5.heap.size w5 (w5.alloc (.cells #[.slice none 0 0] 37)) := below_alloc (Below.refl w5.heap.size w5) _
  obtain ⟨A4, c4, eA4, hc4, hLR⟩ := LRow.new (S := fun q => q = g ∨ (Value.slice B2 l0.length d2).ownBlock = some q) (fun q hq => by
    rcases hq with h1 | h1
    · rw [h1]
      exact HG2.out
    · have := (own2 _ h1).2
      omega) HS4.out
  injection eA4 with eA4 _ ec4
  subst eA4 ec4
  have hLR8 := hLR.step (S' := fun q => q = g ∨ q = w5.heap.size ∨ (Value.slice B2 l0.length d2).ownBlock = some q) ⟨fun q hq => hq.imp id .inr, fun q hq => by
    rcases hq with h1 | h1 | h1
    · exact .inl (.inl h1)
    · exact .inr (by omega)
    · exact .inl (.inr h1)⟩ (KeptS.below (below_step HB45.out hb58))
  have HLR8 := aq hLR8
  have HY8 := aq (blk_below HY3.out hb58)
  have QB8 := aq (blk_below (blk_below (blk_below QB.out HB3.out) HB5.out) hb58)
  have hsize : (w5.alloc (.cells #[.slice none 0 0] 37)).heap.size = w5.heap.size + 1 := by simp
  clear hLR hLR8 hb58 own2
  go_wp2_with (first
    | (go_at_call 70; (with_reducible refine (appendRange_any (gr := g) (gf := w.heap.size + 1 + 1 + 1 + 1) (gs := w5.heap.size) (gy := gy) HST.out HI.out HY8.out HNY.out HLR8.out HD4.out HG.out HE.out HL0.out HM0.out (by omega)).mono ?_); rintro en w9 ⟨vr9, vs9, S9, n9, rfl, hR9, hG9, hK9⟩; have HR := aq hR9; have HNG9 : Aside0 (¬ S9 (w.heap.size + 1 + 1 + 1)) := ⟨fun hs => by (rcases hG9.2 _ hs with h1 | h1); (exact HNG.out h1); omega⟩; have QB9 := aq ((hK9.block _ (lt_of_block QB8.out) HNG9.out).trans QB8.out); clear hR9 hG9 hK9))
  generalize hgq : w.heap.size + 1 + 1 + 1 = gq at HNG9 QB9 ⊢
  have hgq0 : w.heap.size ≤ gq := by omega
  generalize w5.heap.size = gs at HR ⊢
  have HRy := aq (HR.out.step (below_drew (Below.refl w9.heap.size w9)))
  have QBy := aq (blk_drew QB9.out)
  refine start_ (n := 6) (S := fun w' => w'.cell? ⟨gs, 0, none⟩ = some vs9) (ds := []) #[false, false, false, false, false, false] (by kernel_rfl) rfl rfl ((blk_cell HRy.out.seen 0).trans rfl) (fun hHeld => ?_)
  generalize w9.drew = wz at HRy QBy hHeld ⊢
  clear HR QB9
  obtain ⟨Ar, cr, hvr, hcr, hCL⟩ := HRy.out.rows.cl
  subst hvr
  have HCL := aq hCL
  have HCR := aq hcr
  clear hCL hcr
  refine pu 0 56 ?_
  refine ta 2 58 hHeld ?_
  refine on1 1 57 fun K hK => ?_
  refine gS Tryd.func65 #[.pointer (some ⟨g, 0, none⟩)] ?_
  refine (fromRange_calls g _ (b : Int) (E1 : Int) Ar cr l' k _ HRy.out.obj HCL.out HCR.out HTE.out).mono ?_
  rintro e' w7 ⟨v7, rfl, hS7, hb⟩
  refine ⟨_, rfl, ?_⟩
  obtain ⟨A7, d7, rfl, _, _⟩ := Kd.S_reads hS7
  have SN7 := aq (blk_below HRy.out.seen hb)
  have Q7 := aq (blk_below QBy.out hb)
  have B7 := aq (below_step HRy.out.below hb)
  have HS7 := aq (Kd.S_lower hS7 HRy.out.below.size)
  have HGQ : Aside0 (gs ≠ gq) := ⟨fun he => HNG9.out (he ▸ HRy.out.sseen)⟩
  clear hS7 hb HRy QBy HCL HCR
  refine hK.out _ _ (bc SN7 0) (fun hHeld => ?_)
  clear hK K
  refine nm ?_
  have c0 : w7.cell? ⟨gq, 0, none⟩ = some (.int .u64 0) := bc Q7 0
  have c1 : w7.cell? ⟨gq, 1, none⟩ = some (.int .u64 0) := bc Q7 1
  have c2 : w7.cell? ⟨gq, 2, none⟩ = some (.slice none 0 0) := bc Q7 2
  have f0 : w7.frozen? ⟨gq, 0, none⟩ = false := bz Q7 0
  have SK5 : Aside0 ((w7.setCell ⟨gq, 0, none⟩ (.int .u64 (b : Int))).heap[gq]? = some (.cells #[.int .u64 (b : Int), .int .u64 0, .slice none 0 0] 35 (0, 0))) := ⟨blk_set Q7.out 0 _⟩
  have f1 : (w7.setCell ⟨gq, 0, none⟩ (.int .u64 (b : Int))).frozen? ⟨gq, 1, none⟩ = false := bz SK5 1
  have SK6 : Aside0 (((w7.setCell ⟨gq, 0, none⟩ (.int .u64 (b : Int))).setCell ⟨gq, 1, none⟩ (.int .u64 (E1 : Int))).heap[gq]? = some (.cells #[.int .u64 (b : Int), .int .u64 (E1 : Int), .slice none 0 0] 35 (0, 0))) := ⟨blk_set SK5.out 1 _⟩
  have f2 : ((w7.setCell ⟨gq, 0, none⟩ (.int .u64 (b : Int))).setCell ⟨gq, 1, none⟩ (.int .u64 (E1 : Int))).frozen? ⟨gq, 2, none⟩ = false := bz SK6 2
  have SK7 : Aside0 ((((w7.setCell ⟨gq, 0, none⟩ (.int .u64 (b : Int))).setCell ⟨gq, 1, none⟩ (.int .u64 (E1 : Int))).setCell ⟨gq, 2, none⟩ (.slice A7 l'.length d7)).heap[gq]? = some (.cells #[.int .u64 (b : Int), .int .u64 (E1 : Int), (.slice A7 l'.length d7)] 35 (0, 0))) := ⟨blk_set SK6.out 2 _⟩
  have g0 : (((w7.setCell ⟨gq, 0, none⟩ (.int .u64 (b : Int))).setCell ⟨gq, 1, none⟩ (.int .u64 (E1 : Int))).setCell ⟨gq, 2, none⟩ (.slice A7 l'.length d7)).cell? ⟨gq, 0, none⟩ = some (.int .u64 (b : Int)) := bc SK7 0
  have g1 : (((w7.setCell ⟨gq, 0, none⟩ (.int .u64 (b : Int))).setCell ⟨gq, 1, none⟩ (.int .u64 (E1 : Int))).setCell ⟨gq, 2, none⟩ (.slice A7 l'.length d7)).cell? ⟨gq, 1, none⟩ = some (.int .u64 (E1 : Int)) := bc SK7 1
  have g2 : (((w7.setCell ⟨gq, 0, none⟩ (.int .u64 (b : Int))).setCell ⟨gq, 1, none⟩ (.int .u64 (E1 : Int))).setCell ⟨gq, 2, none⟩ (.slice A7 l'.length d7)).cell? ⟨gq, 2, none⟩ = some ((.slice A7 l'.length d7)) := bc SK7 2
  have s3 : (((w7.setCell ⟨gq, 0, none⟩ (.int .u64 (b : Int))).setCell ⟨gq, 1, none⟩ (.int .u64 (E1 : Int))).setCell ⟨gq, 2, none⟩ (.slice A7 l'.length d7)).cell? ⟨gs, 0, none⟩ = some vs9 := (blk_cell ((Below.heap_setCell _ _ _ gs HGQ.out).trans ((Below.heap_setCell _ _ _ gs HGQ.out).trans ((Below.heap_setCell _ _ _ gs HGQ.out).trans SN7.out))) 0).trans rfl
  clear hHeld
  refine one_ (i := 3) (N := none) #[true, true, true, true, false, false] rfl rfl (by kernel_rfl) (by decide) (fun K hK => ?_)
  refine store_step rfl (w1 := (((w7.setCell ⟨gq, 0, none⟩ (.int .u64 (b : Int))).setCell ⟨gq, 1, none⟩ (.int .u64 (E1 : Int))).setCell ⟨gq, 2, none⟩ (.slice A7 l'.length d7))) (by first | (go_simp; done) | (go_simp; rfl) | (go_simp; exact ⟨rfl, rfl⟩)) ?_
  refine hK.out _ _ s3 (fun hHeld => ?_)
  clear hK K
  refine norm_ (a' := ?_) ?_ ?_
  rotate_left
  · show Act.put _ none _ = _
    first | rfl | (simp only [Act.put]; rfl) | simp only [Act.put]
  refine pu 4 7 ?_
  refine pu 5 8 ?_
  refine done_ (by kernel_rfl) ?_
  try go_wp2
  refine bodyPost_ret (v := .tuple #[.agg #[.int .u64 (b : Int), .int .u64 (E1 : Int), (.slice A7 l'.length d7)], vs9, .bool true]) (by simp [results, Tryd.results33, go_sem, g0, g1, g2]) rfl ⟨_, _, rfl, ?_, ?_⟩
  · exact Kd.S_set (Kd.S_set (Kd.S_set HS7.out Q7.out (by decide) 0 _) SK5.out (by decide) 1 _) SK6.out (by decide) 2 _
  · exact Below.setCell (Below.setCell (Below.setCell B7.out hgq0 _) hgq0 _) hgq0 _
end Go.Proofs.YtfhcpniibiobgaaDoor.Qf
namespace Go.Proofs.YtfhcpniibiobgaaDoor.Qf
open Go.RowKit Go.Proofs.YtfhcpniibiobgaaDoorW.PrintWords Go.Proofs.YtfhcpniibiobgaaDoorW.PrintLast Go.Proofs.YtfhcpniibiobgaaDoorW.PrintMore
open Hs (CB CL at_L at_B infoB infoL R_of_blk sameF)
theorem box6 {w : World} {g : Nat} {a0 a1 a2 a3 a4 a5 : Int} (h : w.heap[g]? = some (.cells #[.int .i64 a0, .int .i64 a1, .int .i64 a2, .int .u64 a3, .int .u64 a4, .int .u64 a5] 24 (0, 0))) : w.cell? ⟨g, 0, none⟩ = some (.int .i64 a0) ∧ w.cell? ⟨g, 1, none⟩ = some (.int .i64 a1) ∧ w.cell? ⟨g, 2, none⟩ = some (.int .i64 a2) ∧ w.cell? ⟨g, 3, none⟩ = some (.int .u64 a3) ∧ w.cell? ⟨g, 4, none⟩ = some (.int .u64 a4) ∧ w.cell? ⟨g, 5, none⟩ = some (.int .u64 a5) :=
  ⟨(blk_cell h 0).trans rfl, (blk_cell h 1).trans rfl, (blk_cell h 2).trans rfl, (blk_cell h 3).trans rfl, (blk_cell h 4).trans rfl, (blk_cell h 5).trans rfl⟩
theorem box3 {w : World} {g : Nat} {b e : Int} {A : Option Addr} {n c : Nat} (h : w.heap[g]? = some (.cells #[.int .u64 b, .int .u64 e, .slice A n c] 35 (0, 0))) : w.cell? ⟨g, 0, none⟩ = some (.int .u64 b) ∧ w.cell? ⟨g, 1, none⟩ = some (.int .u64 e) ∧ w.cell? ⟨g, 2, none⟩ = some (.slice A n c) :=
  ⟨(blk_cell h 0).trans rfl, (blk_cell h 1).trans rfl, (blk_cell h 2).trans rfl⟩
structure ArOk (a0 a1 a2 a3 a4 a5 : Int) (b e x : Nat) (l m l' : List (List Int)) (k : Nat) : Prop where
  t1 : impl_texts.f k l = some l
  t2 : impl_texts.f k m = some m
  t3 : impl_texts.f k l' = some l'
  be : b ≤ e
  ex : e ≤ x
  s1 : compact_RangeSize.f (b : Int) (e : Int) = some (l.length : Int)
  s2 : compact_RangeSize.f (e : Int) (x : Int) = some (m.length : Int)
  e64 : e < 18446744073709551616
  n1 : l.length ≤ 400
  n2 : m.length ≤ 400
  st : MGen a0 a1 a2 a3 a4 a5 b e x l m l'
theorem ArOk.calls {a0 a1 a2 a3 a4 a5 : Int} {b e x : Nat} {l m l' : List (List Int)} {k : Nat} (h : ArOk a0 a1 a2 a3 a4 a5 b e x l m l' k) {A : Option Addr} {c : Nat} {Am : Option Addr} {cm : Nat} {w : World} (hl : CL w A l) (hc : l.length ≤ c) (hm : CL w Am m) (hcm : m.length ≤ cm) (HG : Glob w) :
    Calls Tryd.prog 33 #[.agg #[.int .i64 a0, .int .i64 a1, .int .i64 a2, .int .u64 a3, .int .u64 a4, .int .u64 a5], .agg #[.int .u64 (b : Nat), .int .u64 (e : Nat), .slice A l.length c], .agg #[.int .u64 (e : Nat), .int .u64 (x : Nat), .slice Am m.length cm]] w fun en w' => ∃ A' d' vs, en = .returned (.tuple #[.agg #[.int .u64 (b : Nat), .int .u64 (x : Nat), .slice A' l'.length d'], vs, .bool true]) ∧ l'.length ≤ d' ∧ CL w' A' l' ∧ Below w.heap.size w w' :=
  (appendRange2_calls a0 a1 a2 a3 a4 a5 b e x A c l Am cm m l' k w hc hcm hl hm HG h.t1 h.t2 h.t3 h.be h.ex h.s1 h.s2 h.e64 h.n1 h.n2 h.st).mono fun _ _ ⟨v, vs, he, hS, hb⟩ => by
    obtain ⟨A', d', rfl, hd, hC⟩ := Kd.S_reads hS
    exact ⟨A', d', vs, he, hd, hC, hb⟩
end Go.Proofs.YtfhcpniibiobgaaDoor.Qf
