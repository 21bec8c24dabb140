/- Several texts, joined. -/
import Derived.Test.YtfhcpniibiobgaaDoorQfx
import Derived.Test.YtfhcpniibiobgaaDoorQfx1
import Derived.Test.YtfhcpniibiobgaaDoorQfx2
import Derived.Deep.RegionHeld3
import Derived.Lib.Builder
namespace Go.Proofs.YtfhcpniibiobgaaDoor.Qf
open Go.RowKit Go.Proofs.YtfhcpniibiobgaaDoorW.PrintWords Go.Proofs.YtfhcpniibiobgaaDoorW.PrintLast Go.Proofs.YtfhcpniibiobgaaDoorW.PrintMore
open Hs (CB CL at_L at_B infoB infoL R_of_blk)
theorem w64_in (n : Int) (h : -9223372036854775808 ≤ n ∧ n ≤ 9223372036854775807) : wrap64 n = n := by unfold wrap64; omega
abbrev toyV (a0 a1 a2 a3 a4 a5 : Int) : Value := .iface 90 (.agg #[.int .i64 a0, .int .i64 a1, .int .i64 a2, .int .u64 a3, .int .u64 a4, .int .u64 a5])
theorem meth_hc (a0 a1 a2 a3 a4 a5 : Int) (W : World) : (method 304 90 (.agg #[.int .i64 a0, .int .i64 a1, .int .i64 a2, .int .u64 a3, .int .u64 a4, .int .u64 a5]) "HashChildren").run Tryd.prog W = .ok (53, .agg #[.int .i64 a0, .int .i64 a1, .int .i64 a2, .int .u64 a3, .int .u64 a4, .int .u64 a5]) W := by kernel_rfl
def chainB (a0 a1 a2 a3 a4 a5 : Int) : List (List Int) → List Int → Option (List Int)
  | [], s => some s
  | h :: t, s => (impl_toy_HashChildren.f a0 a1 a2 a3 a4 a5 h s).bind fun s' => chainB a0 a1 a2 a3 a4 a5 t s'
set_option maxHeartbeats 1000000 in
set_option maxRecDepth 100000 in
theorem chainBorder_calls (a0 a1 a2 a3 a4 a5 : Int) (A1 : Option Addr) (c1 : Nat) (s : List Int) (A2 : Option Addr) (c2 : Nat) (l : List (List Int)) (r : List Int) (w : World) (hs : CB w A1 s) (hsc : s.length ≤ c1) (hl : CL w A2 l) (hll : l.length ≤ 5864062014805) (h : chainB a0 a1 a2 a3 a4 a5 l s = some r) :
    Calls Tryd.prog 91 #[toyV a0 a1 a2 a3 a4 a5, .slice A1 s.length c1, .slice A2 l.length c2] w fun e w' => ∃ A c, e = .returned (.slice A r.length c) ∧ r.length ≤ c ∧ CB w' A r ∧ Below w.heap.size w w' := by
  have HS := aq hs
  have HL := aq hl
  have HH := aq h
  clear hs hl h
  have hm := meth_hc a0 a1 a2 a3 a4 a5
  go_enter Tryd.func91, Tryd.ntmps91
  go_wp2
  (try simp only [Act.put, List.setIfInBounds_toArray, List.set_cons_zero, List.set_cons_succ])
  go_loopg [1, 11] l.length (fun kq v1 v13 wr => ∃ (j : Nat) (s' : List Int) (A' : Option Addr) (c' : Nat), j + kq = l.length ∧ v13 = .int .i64 (j : Nat) ∧ v1 = .slice A' s'.length c' ∧ Aside0 (s'.length ≤ c') ∧ Aside0 (CB wr A' s') ∧ Aside0 (CL wr A2 l) ∧ Aside0 (chainB a0 a1 a2 a3 a4 a5 (l.drop j) s' = some r) ∧ Aside0 (Below w.heap.size w wr))
  case atStart => exact ⟨0, s, A1, c1, by omega, rfl, rfl, ⟨hsc⟩, HS, HL, HH, ⟨Below.refl _ _⟩⟩
  case round =>
    clear HS HL HH
    obtain ⟨j, s', A', c', hj, rfl, rfl, HSC, HS, HL, HH, HB⟩ := hrel
    by_cases hlt : j < l.length
    · obtain ⟨ad, Ah, ch, ead, hx, hlh, hCh⟩ := at_L HL.out j hlt
      cases ead
      have hd : l.drop j = l.getD j [] :: l.drop (j + 1) := by
        rw [List.drop_eq_getElem_cons hlt, List.getD_eq_getElem?_getD, List.getElem?_eq_getElem hlt]; rfl
      have hh := HH.out
      rw [hd] at hh
      generalize l.getD j [] = hsh at hh hx hlh hCh
      have HCh := aq hCh
      have HLh := aq hlh
      simp only [chainB] at hh
      obtain ⟨s2, hs2, hh2⟩ := Option.bind_eq_some_iff.mp hh
      have HH2 := aq hh2
      have HS2 := aq hs2
      clear hd hh hh2 hs2
      go_wp2_with (go_at_call 53; (with_reducible refine (impl_toy_HashChildren.calls a0 a1 a2 a3 a4 a5 _ _ hsh _ _ s' s2 _ HCh.out HLh.out HS.out HSC.out HS2.out).mono ?_); rintro e w3 ⟨v3, rfl, hR3, hb3⟩; obtain ⟨A3, c3, rfl, hl3, hC3⟩ := Kd.R_reads hR3; have HC3 := aq hC3; have HL3 := aq hl3; have HB3 := aq hb3; clear hR3 hC3 hl3 hb3)
      go_roundg (l.length - (j + 1))
      case measure => omega
      case rel => exact ⟨j + 1, s2, _, _, by omega, by go_num, rfl, HL3, HC3, ⟨Kd.C_below HL.out HB3.out⟩, HH2, ⟨below_then HB.out HB.out.size HB3.out⟩⟩
    · obtain rfl : j = l.length := by omega
      have hh := HH.out
      rw [List.drop_length] at hh
      obtain rfl := Option.some.inj hh
      clear hh
      go_wp2
      go_ret
      exact ⟨_, _, rfl, HSC.out, HS.out, HB.out⟩
abbrev sameB (l m : List Int) : Bool := (strOfNums l).toList == (strOfNums m).toList
end Go.Proofs.YtfhcpniibiobgaaDoor.Qf
namespace Go.Proofs.YtfhcpniibiobgaaDoor.Qf
open Go.RowKit Go.Proofs.YtfhcpniibiobgaaDoorW.PrintWords Go.Proofs.YtfhcpniibiobgaaDoorW.PrintLast Go.Proofs.YtfhcpniibiobgaaDoorW.PrintMore
open Hs (CB CL at_L at_B infoB infoL R_of_blk)
theorem app_lit (W : World) (g : Nat) (A : Option Addr) (c : Nat) (ys : List Int) (hy : CB W A ys) (hl : ys.length ≤ 140737488351232) :
    ∃ A' c' w1, (Builtin.append_ #[28, 28] 28 #[.slice (some ⟨g, 0, none⟩) 0 0, .slice A ys.length c]).run Tryd.prog W = .ok (.slice A' ys.length c') w1 ∧ ys.length ≤ c' ∧ CB w1 A' ys ∧ Below W.heap.size W w1 := by
  obtain ⟨i0, hi, hz⟩ := Option.map_eq_some_iff.1 infoB
  simp only [Prod.mk.injEq] at hz
  obtain ⟨hz0, hz1, hz2⟩ := hz
  by_cases h0 : ys = []
  · subst h0
    refine ⟨some ⟨g, 0, none⟩, 0, W, ?_, Nat.le_refl _, ⟨rfl, by simp, fun h => by simp at h⟩, Below.refl _ _⟩
    rcases A with _ | ad
    · simp [Builtin.append_, run_underlying Tryd.underlying28, sizeOf, typeInfo, hi, Builtin.lenOf, Builtin.firstCells, storeCells]
    · have hr := run_append_room_cells (P := Tryd.prog) W 28 28 5 i0 Tryd.underlying28 hi g 0 0 0 ad 0 c [] (by simp) (by simp) (by simp) (Nat.le_refl _) (by simp) (by simp)
      exact hr
  · have hpos : 0 < ys.length := List.length_pos_iff.2 h0
    obtain ⟨ad, rfl, _⟩ := at_B hy 0 hpos
    have hnews : ∀ j u, (ys.map (Value.int .u8))[j]? = some u → W.cell? (ad.add j) = some u := by
      intro j u hj
      rw [List.getElem?_map] at hj
      obtain ⟨x, hx, rfl⟩ := Option.map_eq_some_iff.1 hj
      obtain ⟨hjl, hxe⟩ := List.getElem?_eq_some_iff.1 hx
      obtain ⟨ad', e, hc⟩ := at_B hy j hjl
      cases e
      rw [List.getD_eq_getElem?_getD, List.getElem?_eq_getElem hjl, Option.getD_some, hxe] at hc
      exact hc
    obtain ⟨v', w', hrun, hown, hg⟩ := run_append_arg_grows (P := Tryd.prog) W 28 28 5 i0 (.int .u8 0) 1 1 Tryd.underlying28 hi hz0 hz1 hz2 rfl (by omega) ⟨g, 0, none⟩ 0 0 [] rfl (fun j u h => by simp at h) ad ys.length c (ys.map (Value.int .u8)) (by simp) hnews (by omega) (by unfold maxLen; omega) (by omega)
    rw [List.nil_append, Nat.zero_add] at hown
    have hR : Kd.R (Kd.int .u8) 5 w' W.heap.size (fun _ => True) v' ys := ⟨fun _ _ => trivial, _, hown, by show _ = _ * 1; simp, fun j p hj => by
      show ((ys.map (Value.int .u8)).drop (j * 1)).take 1 = [Value.int .u8 p]
      obtain ⟨hjl, hp⟩ := List.getElem?_eq_some_iff.1 hj
      rw [Nat.mul_one, List.drop_eq_getElem_cons (by rw [List.length_map]; exact hjl), List.take_succ_cons, List.take_zero, List.getElem_map, hp]⟩
    obtain ⟨A', c', rfl, hlc, hC⟩ := Kd.R_reads hR
    exact ⟨A', c', w', hrun, hlc, hC, pw_below_grown (Below.refl _ _) none (Nat.le_refl _) hg (fun k h => by simp at h)⟩
theorem new_lit {Kc : Act → World → Prop} {a : Act} {N : Option Tmp} (W : World) (T : TypeId) (h : ∀ g W', Below W.heap.size W W' → Kc (a.put N (.slice (some ⟨g, 0, none⟩) 0 0)) W') : Kc (a.put N (.slice (some ⟨W.heap.size, 0, none⟩) 0 0)) (W.alloc (.cells #[] T)) :=
  h _ _ (below_alloc (Below.refl _ _) _)
theorem app_step {ops : Array Oper} {o : Oper} {a : Act} {Kc : Act → World → Prop} {Q : Exit → Act → World → Prop} {W : World} {A : Option Addr} {c : Nat} {ys : List Int} (g : Nat) (s x : Operand) (hgd : o.guard = none)
    (ho : o.op = .call { callee := .builtin .append, args := #[s, x], argTypes := #[28, 28] }) (hty : o.type = 28) (hs : a.eval s = .slice (some ⟨g, 0, none⟩) 0 0) (hx : a.eval x = .slice A ys.length c) (hy : CB W A ys) (hl : ys.length ≤ 140737488351232)
    (h : ∀ A' c' w1, ys.length ≤ c' → CB w1 A' ys → Below W.heap.size W w1 → Kc (a.put o.dst (.slice A' ys.length c')) w1) : if Region.wanted o (yielded ops a.tmps) = true then Oper.wp Tryd.prog o a W Kc Q else Kc (a.put o.dst undef) W := by
  obtain ⟨A', c', w1, hrun, h1, h2, h3⟩ := app_lit W g A c ys hy hl
  refine event_step (by simp [Region.wanted, hgd]) (v := .slice A' ys.length c') (w1 := w1) ?_ (h A' c' w1 h1 h2 h3)
  unfold execOp
  simp only [ho, hty, resolve, invoke, builtin, Sem.run_bind, Sem.run_pure, Result.andThen_ok, List.map_toArray, List.map_cons, List.map_nil, hs, hx, hrun]
def kV : Kd Unit where
  sz := 3
  E := []
  K := fun _ _ cs => cs.length = 3 ∧ ∀ u ∈ cs, u.oneCell' = true
  M := fun _ _ _ _ cs => cs.length = 3 ∧ ∀ u ∈ cs, u.oneCell' = true
  K_len := fun h => h.1
  K_one := fun h => h.2
  K_below := fun _ h => h
  K_of_M := fun h => h
  M_mono := fun _ h => h
  M_bound := fun h => h
  M_move := fun _ h => h
  M_lower := fun _ h => h
theorem kV_move {e base : Nat} {ok : Nat → Prop} {w w1 : World} {v : Value} {xs : List Unit} (h : kV.R e w base ok v xs) (hm : ∀ k, v.ownBlock = some k → w1.heap[k]? = w.heap[k]?) : kV.R e w1 base ok v xs := by
  obtain ⟨h0, inner, hown, hr⟩ := h
  exact ⟨h0, inner, own_move hown hm, hr⟩
theorem kV_lt {e base : Nat} {ok : Nat → Prop} {w : World} {v : Value} {xs : List Unit} (h : kV.R e w base ok v xs) : ∀ k, v.ownBlock = some k → base ≤ k ∧ k < w.heap.size := by
  obtain ⟨h0, inner, hown, hr⟩ := h
  intro k hk
  rcases hown.2 with h2 | ⟨g, cap, cur, rfl, hg, hh, _⟩
  · rw [h2.1] at hk
    simp [Value.ownBlock] at hk
  · have : g = k := by simpa [Value.ownBlock] using hk
    subst this
    refine ⟨hg, ?_⟩
    rcases Nat.lt_or_ge g w.heap.size with h | h
    · exact h
    · rw [Array.getElem?_eq_none h] at hh
      cases hh
theorem kV_below {e base : Nat} {ok : Nat → Prop} {w w1 : World} {v : Value} {xs : List Unit} (h : kV.R e w base ok v xs) (hb : Below w.heap.size w w1) : kV.R e w1 base ok v xs :=
  kV_move h fun k hk => hb.block k (kV_lt h k hk).2
theorem kV_slice {e base : Nat} {ok : Nat → Prop} {w : World} {v : Value} {xs : List Unit} (h : kV.R e w base ok v xs) : ∃ A n c, v = .slice A n c := by
  obtain ⟨h0, inner, hown, hr⟩ := h
  rcases hown.2 with h2 | ⟨g, cap, cur, rfl, hg, hh, _⟩
  · exact ⟨_, _, _, h2.1⟩
  · exact ⟨_, _, _, rfl⟩
section
variable {P : Program} {ops : Array Oper} {o : Oper} {a : Act} {Q : Exit → Act → World → Prop} {Kc : Act → World → Prop}
theorem store_step {W w1 : World} (hw : Region.wanted o (yielded ops a.tmps) = true) (hrun : (execOp a.eval o).run P W = .ok .skip w1) (h : Kc (a.put o.dst undef) w1) : if Region.wanted o (yielded ops a.tmps) = true then Oper.wp P o a W Kc Q else Kc (a.put o.dst undef) W := by
  rw [if_pos hw]
  unfold Oper.wp
  rw [hrun]
  exact h
end
theorem infoV : (Tryd.prog.info? 58).map (fun i => (i.zero, i.size, i.bytes)) = some (some (.agg #[.int .u64 0, .int .u64 0, .slice none 0 0]), 3, 40) := by kernel_rfl
set_option maxHeartbeats 4000000 in
set_option maxRecDepth 100000 in
theorem visit_calls (lv ix : Int) (A : Option Addr) (c : Nat) (l : List Int) (gs n : Nat) (v : Value) (w : World) (hl : CB w A l) (hll : l.length ≤ 140737488351232) (hg : w.heap[gs]? = some (.cells #[v] 37 (0, 0))) (hgs : gs < w.heap.size) (hr : kV.R 58 w (gs + 1) (fun _ => True) v (List.replicate n ())) (hn : n ≤ 1000) :
    Calls Tryd.prog 64 #[.agg #[.int .u64 lv, .int .u64 ix], .slice A l.length c, .pointer (some ⟨gs, 0, none⟩)] w fun e w' => ∃ v0 v', e = .returned v0 ∧ w'.heap[gs]? = some (.cells #[v'] 37 (0, 0)) ∧ kV.R 58 w' (gs + 1) (fun _ => True) v' (List.replicate (n + 1) ()) ∧ (∀ k, k < w.heap.size → k ≠ gs → some k ≠ v.ownBlock → w'.heap[k]? = w.heap[k]?) ∧ (v'.ownBlock = v.ownBlock ∨ ∃ b, v'.ownBlock = some b ∧ w.heap.size ≤ b) ∧ Below gs w w' := by
  have HL := aq hl
  have HV0 := aq hr
  have SK0 := aq hg
  clear hl hr hg
  go_enter Tryd.func64, Tryd.ntmps64
  try go_wp2_with (fail)
  have BK : Aside0 (((w.alloc (.cells #[.int .u64 lv, .int .u64 ix] 108)).drew).heap[w.heap.size]? = some (.cells #[.int .u64 lv, .int .u64 ix] 108 (0, 0))) := ⟨blk_drew (heap_alloc_new w _)⟩
  have HB := aq (below_drew1 (below_alloc (Below.refl w.heap.size w) (.cells #[.int .u64 lv, .int .u64 ix] 108)))
  have SK := aq (blk_below SK0.out HB.out)
  have HV := aq (kV_below HV0.out HB.out)
  refine start_ (n := 10) (S := fun w' => w'.cell? ⟨gs, 0, none⟩ = some v ∧ w'.cell? ⟨w.heap.size, 0, none⟩ = some (.int .u64 lv) ∧ w'.cell? ⟨w.heap.size, 1, none⟩ = some (.int .u64 ix)) (ds := [9]) #[false, false, false, false, false, false, false, false, false, false] (by kernel_rfl) rfl rfl ⟨bc SK 0, bc BK 0, bc BK 1⟩ (fun hHeld => ?_)
  generalize (w.alloc (.cells #[.int .u64 lv, .int .u64 ix] 108)).drew = wz at BK SK HB HV hHeld ⊢
  refine pu 4 9 ?_
  refine ta 0 5 hHeld ?_
  refine ta 1 6 hHeld ?_
  refine two_ (i := 2) (j := 3) (Ni := some 7) (Nj := some 8) #[true, true, true, false, true, false, false, false, false, false] #[true, true, false, true, true, false, false, false, false, false] rfl rfl rfl rfl (by kernel_rfl) (by decide) (by decide) (fun K hK => ?_) (fun K hK => ?_)
  · skip
    refine gS Tryd.func57 #[.agg #[.int .u64 lv, .int .u64 ix]] ?_
    refine (impl_fromNode.calls lv ix lv ix _ rfl).mono ?_
    rintro e W' ⟨rfl, hb⟩
    refine ⟨_, rfl, ?_⟩
    have nBK := aq (blk_below BK.out hb)
    have nSK := aq (blk_below SK.out hb)
    have nHB := aq (below_step HB.out hb)
    have nHV := aq (kV_below HV.out hb)
    clear BK SK HB HV  hb
    have BK := nBK
    have SK := nSK
    have HB := nHB
    have HV := nHV
    clear nBK nSK nHB nHV 
    refine hK.out _ _ ⟨bc SK 0, bc BK 0, bc BK 1⟩ (fun hHeld => ?_)
    clear hK K
    refine nm ?_
    refine on1 3 8 fun K hK => ?_
    refine event_step rfl (by first | (go_simp; done) | (go_simp; rfl) | (go_simp; exact ⟨rfl, rfl⟩)) ?_
    refine new_lit _ _ ?_
    intro g3 W' hb
    have nBK := aq (blk_below BK.out hb)
    have nSK := aq (blk_below SK.out hb)
    have nHB := aq (below_step HB.out hb)
    have nHV := aq (kV_below HV.out hb)
    clear BK SK HB HV  hb
    have BK := nBK
    have SK := nSK
    have HB := nHB
    have HV := nHV
    clear nBK nSK nHB nHV 
    refine hK.out _ _ ⟨bc SK 0, bc BK 0, bc BK 1⟩ (fun hHeld => ?_)
    clear hK K
    refine nm ?_
    refine on1 5 10 fun K hK => ?_
    refine app_step g3 (.tmp 8) (.tmp 9) rfl rfl rfl rfl rfl (Kd.C_below HL.out HB.out) hll ?_
    intro B d W' hd hC hb
    have nBK := aq (blk_below BK.out hb)
    have nSK := aq (blk_below SK.out hb)
    have nHB := aq (below_step HB.out hb)
    have nHV := aq (kV_below HV.out hb)
    clear BK SK HB HV  hb
    have BK := nBK
    have SK := nSK
    have HB := nHB
    have HV := nHV
    clear nBK nSK nHB nHV 
    clear hC
    refine hK.out _ _ ⟨bc SK 0, bc BK 0, bc BK 1⟩ (fun hHeld => ?_)
    clear hK K
    refine nm ?_
    refine pu 6 11 ?_
    refine on1 7 12 fun K hK => ?_
    refine event_step rfl (v := .slice (some ⟨_, 0, none⟩) 1 1) (w1 := World.alloc _ (.cells #[.int .u64 lv, .int .u64 ix, .slice B l.length d] 58)) (by first | (go_simp; done) | (go_simp; rfl) | (go_simp; exact ⟨rfl, rfl⟩)) ?_
    rename World => W2
    have hb := below_alloc (Below.refl W2.heap.size W2) (.cells #[.int .u64 lv, .int .u64 ix, .slice B l.length d] 58)
    refine hK.out _ _ ⟨(blk_cell (blk_below SK.out hb) 0).trans rfl, (blk_cell (blk_below BK.out hb) 0).trans rfl, (blk_cell (blk_below BK.out hb) 1).trans rfl⟩ (fun hHeld => ?_)
    clear hK K
    refine nm ?_
    refine on1 8 13 fun K hK => ?_
    refine Kd.R_append_step kV (w0 := w) (gs + 1) rfl (.tmp 5) (.tmp 12) 37 58 (.agg #[.int .u64 0, .int .u64 0, .slice none 0 0]) 40 rfl Tryd.underlying37 infoV rfl (by decide) (by omega) v (List.replicate n ()) () [.int .u64 lv, .int .u64 ix, .slice B l.length d] (fun _ => True) (fun _ => False) rfl rfl ⟨rfl, by simp [Value.oneCell']⟩ (fun _ h => h.elim) (fun _ _ => trivial) HV.out (Below.mono HB.out (by omega)) (Nat.le_trans (by omega) (below_size HB.out)) (by simp; omega) ?_
    intro v1 w1 hR1 hB1 hG1 hA1
    have hlt := below_size HB.out
    have SK1 := aq ((hG1.block gs (by omega) (fun h => by have := (kV_lt HV0.out gs h.symm).1; omega)).trans SK.out)
    have BK1 := aq ((hG1.block w.heap.size (lt_of_block BK.out) (fun h => by have := (kV_lt HV0.out w.heap.size h.symm).2; omega)).trans BK.out)
    have K1 : Aside0 (∀ k, k < w.heap.size → k ≠ gs → some k ≠ v.ownBlock → w1.heap[k]? = w.heap[k]?) := ⟨fun k hk _ hv => (hG1.block k (by omega) hv).trans (HB.out.block k hk)⟩
    have A1 : Aside0 (v1.ownBlock = v.ownBlock ∨ ∃ b, v1.ownBlock = some b ∧ w.heap.size ≤ b) := ⟨hA1.imp id fun ⟨b, h1, h2⟩ => ⟨b, h1, Nat.le_trans hlt h2⟩⟩
    have B1 := aq (Below.mono hB1 (Nat.le_succ gs))
    have R1 := aq hR1
    clear hG1 hA1 hB1 hR1 SK BK HB HV hHeld
    refine hK.out _ _ ⟨bc SK1 0, bc BK1 0, bc BK1 1⟩ (fun hHeld => ?_)
    clear hK K
    refine nm ?_
    obtain ⟨Av, nv, cv, rfl⟩ := kV_slice R1.out
    have hc := cell_of_one SK1.out
    have hf := free_of_one SK1.out
    refine last_ (i := 9) (N := none) #[true, true, true, true, true, true, true, true, true, true] rfl rfl (by kernel_rfl) (by simp) (fun K hK => ?_)
    refine store_step rfl (w1 := w1.setCell ⟨gs, 0, none⟩ (.slice Av nv cv)) (by first | (go_simp; done) | (go_simp; rfl) | (go_simp; exact ⟨rfl, rfl⟩)) ?_
    refine hK.out _ _ ?_
    clear hK K
    refine norm_ (a' := ?_) ?_ ?_
    rotate_left
    · show Act.put _ none _ = _
      first | rfl | (simp only [Act.put]; rfl) | simp only [Act.put]
    refine done_ (by kernel_rfl) ?_
    go_end0
    exact ⟨_, _, rfl, one_setCell SK1.out, (by rw [List.replicate_succ']; exact kV_move R1.out (fun k hk => Below.heap_setCell _ _ _ k (by have := (kV_lt R1.out k hk).1; simp; omega))), fun k h1 h2 h3 => (Below.heap_setCell _ _ _ k h2).trans (K1.out k h1 h2 h3), A1.out, Below.setCell B1.out (by simp) _⟩
  · skip
    refine event_step rfl (by first | (go_simp; done) | (go_simp; rfl) | (go_simp; exact ⟨rfl, rfl⟩)) ?_
    refine new_lit _ _ ?_
    intro g3 W' hb
    have nBK := aq (blk_below BK.out hb)
    have nSK := aq (blk_below SK.out hb)
    have nHB := aq (below_step HB.out hb)
    have nHV := aq (kV_below HV.out hb)
    clear BK SK HB HV  hb
    have BK := nBK
    have SK := nSK
    have HB := nHB
    have HV := nHV
    clear nBK nSK nHB nHV 
    refine hK.out _ _ ⟨bc SK 0, bc BK 0, bc BK 1⟩ (fun hHeld => ?_)
    clear hK K
    refine nm ?_
    refine on1 2 7 fun K hK => ?_
    refine gS Tryd.func57 #[.agg #[.int .u64 lv, .int .u64 ix]] ?_
    refine (impl_fromNode.calls lv ix lv ix _ rfl).mono ?_
    rintro e W' ⟨rfl, hb⟩
    refine ⟨_, rfl, ?_⟩
    have nBK := aq (blk_below BK.out hb)
    have nSK := aq (blk_below SK.out hb)
    have nHB := aq (below_step HB.out hb)
    have nHV := aq (kV_below HV.out hb)
    clear BK SK HB HV  hb
    have BK := nBK
    have SK := nSK
    have HB := nHB
    have HV := nHV
    clear nBK nSK nHB nHV 
    refine hK.out _ _ ⟨bc SK 0, bc BK 0, bc BK 1⟩ (fun hHeld => ?_)
    clear hK K
    refine nm ?_
    refine on1 5 10 fun K hK => ?_
    refine app_step g3 (.tmp 8) (.tmp 9) rfl rfl rfl rfl rfl (Kd.C_below HL.out HB.out) hll ?_
    intro B d W' hd hC hb
    have nBK := aq (blk_below BK.out hb)
    have nSK := aq (blk_below SK.out hb)
    have nHB := aq (below_step HB.out hb)
    have nHV := aq (kV_below HV.out hb)
    clear BK SK HB HV  hb
    have BK := nBK
    have SK := nSK
    have HB := nHB
    have HV := nHV
    clear nBK nSK nHB nHV 
    clear hC
    refine hK.out _ _ ⟨bc SK 0, bc BK 0, bc BK 1⟩ (fun hHeld => ?_)
    clear hK K
    refine nm ?_
    refine pu 6 11 ?_
    refine on1 7 12 fun K hK => ?_
    refine event_step rfl (v := .slice (some ⟨_, 0, none⟩) 1 1) (w1 := World.alloc _ (.cells #[.int .u64 lv, .int .u64 ix, .slice B l.length d] 58)) (by first | (go_simp; done) | (go_simp; rfl) | (go_simp; exact ⟨rfl, rfl⟩)) ?_
    rename World => W2
    have hb := below_alloc (Below.refl W2.heap.size W2) (.cells #[.int .u64 lv, .int .u64 ix, .slice B l.length d] 58)
    refine hK.out _ _ ⟨(blk_cell (blk_below SK.out hb) 0).trans rfl, (blk_cell (blk_below BK.out hb) 0).trans rfl, (blk_cell (blk_below BK.out hb) 1).trans rfl⟩ (fun hHeld => ?_)
    clear hK K
    refine nm ?_
    refine on1 8 13 fun K hK => ?_
    refine Kd.R_append_step kV (w0 := w) (gs + 1) rfl (.tmp 5) (.tmp 12) 37 58 (.agg #[.int .u64 0, .int .u64 0, .slice none 0 0]) 40 rfl Tryd.underlying37 infoV rfl (by decide) (by omega) v (List.replicate n ()) () [.int .u64 lv, .int .u64 ix, .slice B l.length d] (fun _ => True) (fun _ => False) rfl rfl ⟨rfl, by simp [Value.oneCell']⟩ (fun _ h => h.elim) (fun _ _ => trivial) HV.out (Below.mono HB.out (by omega)) (Nat.le_trans (by omega) (below_size HB.out)) (by simp; omega) ?_
    intro v1 w1 hR1 hB1 hG1 hA1
    have hlt := below_size HB.out
    have SK1 := aq ((hG1.block gs (by omega) (fun h => by have := (kV_lt HV0.out gs h.symm).1; omega)).trans SK.out)
    have BK1 := aq ((hG1.block w.heap.size (lt_of_block BK.out) (fun h => by have := (kV_lt HV0.out w.heap.size h.symm).2; omega)).trans BK.out)
    have K1 : Aside0 (∀ k, k < w.heap.size → k ≠ gs → some k ≠ v.ownBlock → w1.heap[k]? = w.heap[k]?) := ⟨fun k hk _ hv => (hG1.block k (by omega) hv).trans (HB.out.block k hk)⟩
    have A1 : Aside0 (v1.ownBlock = v.ownBlock ∨ ∃ b, v1.ownBlock = some b ∧ w.heap.size ≤ b) := ⟨hA1.imp id fun ⟨b, h1, h2⟩ => ⟨b, h1, Nat.le_trans hlt h2⟩⟩
    have B1 := aq (Below.mono hB1 (Nat.le_succ gs))
    have R1 := aq hR1
    clear hG1 hA1 hB1 hR1 SK BK HB HV hHeld
    refine hK.out _ _ ⟨bc SK1 0, bc BK1 0, bc BK1 1⟩ (fun hHeld => ?_)
    clear hK K
    refine nm ?_
    obtain ⟨Av, nv, cv, rfl⟩ := kV_slice R1.out
    have hc := cell_of_one SK1.out
    have hf := free_of_one SK1.out
    refine last_ (i := 9) (N := none) #[true, true, true, true, true, true, true, true, true, true] rfl rfl (by kernel_rfl) (by simp) (fun K hK => ?_)
    refine store_step rfl (w1 := w1.setCell ⟨gs, 0, none⟩ (.slice Av nv cv)) (by first | (go_simp; done) | (go_simp; rfl) | (go_simp; exact ⟨rfl, rfl⟩)) ?_
    refine hK.out _ _ ?_
    clear hK K
    refine norm_ (a' := ?_) ?_ ?_
    rotate_left
    · show Act.put _ none _ = _
      first | rfl | (simp only [Act.put]; rfl) | simp only [Act.put]
    refine done_ (by kernel_rfl) ?_
    go_end0
    exact ⟨_, _, rfl, one_setCell SK1.out, (by rw [List.replicate_succ']; exact kV_move R1.out (fun k hk => Below.heap_setCell _ _ _ k (by have := (kV_lt R1.out k hk).1; simp; omega))), fun k h1 h2 h3 => (Below.heap_setCell _ _ _ k h2).trans (K1.out k h1 h2 h3), A1.out, Below.setCell B1.out (by simp) _⟩
end Go.Proofs.YtfhcpniibiobgaaDoor.Qf
namespace Go.Proofs.YtfhcpniibiobgaaDoor.Qf
open Go.RowKit Go.Proofs.YtfhcpniibiobgaaDoorW.PrintWords Go.Proofs.YtfhcpniibiobgaaDoorW.PrintLast Go.Proofs.YtfhcpniibiobgaaDoorW.PrintMore
open Hs (CB CL at_L at_B infoB infoL R_of_blk)
abbrev rangeObj (gf : Nat) (b e : Int) (A : Option Addr) (n c : Nat) : Obj := .cells #[.pointer (some ⟨gf, 0, none⟩), .int .u64 b, .int .u64 e, .slice A n c] 151 (0, 0)
abbrev facObj (a0 a1 a2 a3 a4 a5 : Int) : Obj := .cells #[.func (.func 53) #[.agg #[.int .i64 a0, .int .i64 a1, .int .i64 a2, .int .u64 a3, .int .u64 a4, .int .u64 a5]] #[]] 100 (0, 0)
set_option maxHeartbeats 1000000 in
set_option maxRecDepth 100000 in
theorem newRange_calls (gf : Nat) (b e : Nat) (A : Option Addr) (n c : Nat) (hbe : b ≤ e) (hs : compact_RangeSize.f (b : Int) (e : Int) = some (n : Int)) (w : World) :
    Calls Tryd.prog 54 #[.pointer (some ⟨gf, 0, none⟩), .int .u64 (b : Nat), .int .u64 (e : Nat), .slice A n c] w fun en w' => ∃ g, en = .returned (.tuple #[.pointer (some ⟨g, 0, none⟩), .nilIface]) ∧ w.heap.size ≤ g ∧ g < w'.heap.size ∧ w'.heap[g]? = some (rangeObj gf (b : Int) (e : Int) A n c) ∧ Below w.heap.size w w' := by
  have RS := aq (compact_RangeSize.calls (b : Int) (e : Int) (n : Int) w hs)
  have t1 : decide (e < b) = false := decide_eq_false (by omega)
  have t2 : decide ((e : Int) < (b : Int)) = false := decide_eq_false (by omega)
  have t3 : ((n : Int) != (n : Int)) = false := by simp
  clear hbe hs
  go_enter Tryd.func54, Tryd.ntmps54
  go_wp2_with (first | (go_at_call 88; (with_reducible refine RS.out.mono ?_); rintro en w1 ⟨rfl, hd⟩; have HB := aq hd.below; clear hd))
  go_ret2
  exact ⟨_, rfl, below_size HB.out, by simp, heap_alloc_new _ _, below_step HB.out (below_alloc (Below.refl _ _) _)⟩
theorem CB_frame {w w' : World} {A : Option Addr} {l : List Int} (h : CB w A l) (hm : 0 < l.length → ∀ ad, A = some ad → w'.heap[ad.block]? = w.heap[ad.block]?) : CB w' A l :=
  ⟨h.1, h.2.1, fun hp => by
    obtain ⟨ad, e, hc⟩ := h.2.2 hp
    refine ⟨ad, e, fun j p hj => ?_⟩
    obtain ⟨c, hl, hk, hcell⟩ := hc j p hj
    refine ⟨c, hl, hk, fun i u hu => ?_⟩
    rw [← hcell i u hu]
    unfold World.cell?
    rw [show (ad.add (j * (Kd.int .u8).sz + i)).block = ad.block by unfold Addr.add; split <;> rfl, hm hp ad e]⟩
theorem hash_blk {W : World} {base : Nat} {ok : Nat → Prop} {A : Option Addr} {n c : Nat} {l : List Int} (h : Kd.R (Kd.int .u8) 5 W base ok (.slice A n c) l) : ∀ ad, A = some ad → base ≤ ad.block ∧ ad.block < W.heap.size := by
  rintro ad rfl
  exact ⟨Kd.R_base h _ rfl, Kd.R_lt h _ rfl⟩
end Go.Proofs.YtfhcpniibiobgaaDoor.Qf
namespace Go.Proofs.YtfhcpniibiobgaaDoor.Qf
open Go.RowKit Go.Proofs.YtfhcpniibiobgaaDoorW.PrintWords Go.Proofs.YtfhcpniibiobgaaDoorW.PrintLast Go.Proofs.YtfhcpniibiobgaaDoorW.PrintMore
open Hs (CB CL at_L at_B infoB infoL R_of_blk)
structure KeptS (S : Nat → Prop) (w w' : World) : Prop where
  size : w.heap.size ≤ w'.heap.size
  block : ∀ k, k < w.heap.size → ¬ S k → w'.heap[k]? = w.heap[k]?
theorem KeptS.refl (S : Nat → Prop) (w : World) : KeptS S w w := ⟨Nat.le_refl _, fun _ _ _ => rfl⟩
theorem KeptS.below {S : Nat → Prop} {w w' : World} (h : Below w.heap.size w w') : KeptS S w w' := ⟨h.size, fun k hk _ => h.block k hk⟩
def Grows (S S' : Nat → Prop) (w : World) : Prop := (∀ k, S k → S' k) ∧ ∀ k, S' k → S k ∨ w.heap.size ≤ k
theorem Grows.refl (S : Nat → Prop) (w : World) : Grows S S w := ⟨fun _ h => h, fun _ h => .inl h⟩
theorem KeptS.trans {S S' : Nat → Prop} {a b c : World} (h : KeptS S a b) (g : Grows S S' a) (k : KeptS S' b c) : KeptS S' a c :=
  ⟨Nat.le_trans h.size k.size, fun i hi hS => (k.block i (Nat.lt_of_lt_of_le hi h.size) hS).trans (h.block i hi fun hs => hS (g.1 i hs))⟩
theorem Grows.trans {S S' S'' : Nat → Prop} {a b : World} (h : Grows S S' a) (hab : a.heap.size ≤ b.heap.size) (k : Grows S' S'' b) : Grows S S'' a :=
  ⟨fun i hi => k.1 i (h.1 i hi), fun i hi => by
    rcases k.2 i hi with h1 | h1
    · exact h.2 i h1
    · exact .inr (by omega)⟩
structure Safe (S : Nat → Prop) (w : World) (A : Option Addr) (s : List Int) : Prop where
  bytes : CB w A s
  away : 0 < s.length → ∀ ad, A = some ad → ad.block < w.heap.size ∧ ¬ S ad.block
theorem Safe.step {S S' : Nat → Prop} {w w' : World} {A : Option Addr} {s : List Int} (h : Safe S w A s) (g : Grows S S' w) (k : KeptS S' w w') : Safe S' w' A s :=
  ⟨CB_frame h.bytes fun hp ad e => k.block _ (h.away hp ad e).1 (fun hs => by
      rcases g.2 _ hs with h1 | h1
      · exact (h.away hp ad e).2 h1
      · have := (h.away hp ad e).1
        omega), fun hp ad e => ⟨Nat.lt_of_lt_of_le (h.away hp ad e).1 k.size, fun hs => by
      rcases g.2 _ hs with h1 | h1
      · exact (h.away hp ad e).2 h1
      · have := (h.away hp ad e).1
        omega⟩⟩
theorem Safe.below {S : Nat → Prop} {w w' : World} {A : Option Addr} {s : List Int} (h : Safe S w A s) (hb : Below w.heap.size w w') : Safe S w' A s := h.step (Grows.refl _ _) (KeptS.below hb)
theorem Safe.new {S : Nat → Prop} {w w' : World} {A : Option Addr} {c : Nat} {s : List Int} (hS : ∀ k, S k → k < w.heap.size) (hr : Kd.R (Kd.int .u8) 5 w' w.heap.size (fun _ => True) (.slice A s.length c) s) : Safe S w' A s :=
  ⟨(Kd.R_reads' hr).2.2, fun _ ad e => by
    obtain ⟨h1, h2⟩ := hash_blk hr ad e
    exact ⟨h2, fun hs => by have := hS _ hs; omega⟩⟩
theorem Safe.old {S : Nat → Prop} {w0 w : World} {A : Option Addr} {s : List Int} (hb : CB w0 A s) (hw : Below w0.heap.size w0 w) (hS : ∀ k, S k → w0.heap.size ≤ k) : Safe S w A s :=
  ⟨Kd.C_below hb hw, fun hp ad e => by
    obtain ⟨ad', e', hc⟩ := at_B hb 0 hp
    rw [e] at e'
    cases e'
    have h1 := World.block_lt_of_cell? w0 _ hc
    rw [Addr.add_zero'] at h1
    exact ⟨Nat.lt_of_lt_of_le h1 hw.size, fun hs => by have := hS _ hs; omega⟩⟩
def kG (S : Nat → Prop) (w0 : World) : Kd (List Int) where
  sz := 1
  E := []
  K := fun _ x cs => ∃ A c, cs = [.slice A x.length c] ∧ x.length ≤ c ∧ Safe S w0 A x
  M := fun _ _ _ x cs => ∃ A c, cs = [.slice A x.length c] ∧ x.length ≤ c ∧ Safe S w0 A x
  K_len := by
    rintro w x cs ⟨A, c, rfl, _⟩
    rfl
  K_one := by
    rintro w x cs ⟨A, c, rfl, _⟩ u hu
    rw [List.mem_singleton.1 hu]
    rfl
  K_below := fun _ h => h
  K_of_M := fun h => h
  M_mono := fun _ h => h
  M_bound := fun h => h
  M_move := fun _ h => h
  M_lower := fun _ h => h
structure Rows (S : Nat → Prop) (w : World) (base : Nat) (v : Value) (l : List (List Int)) : Prop where
  row : (kG S w).R 28 w base (fun _ => True) v l
  own : ∀ k, v.ownBlock = some k → S k
theorem Rows.step {S S' : Nat → Prop} {w w' : World} {base : Nat} {v : Value} {l : List (List Int)} (h : Rows S w base v l) (g : Grows S S' w) (k : KeptS S' w w') (ho : ∀ q, v.ownBlock = some q → w'.heap[q]? = w.heap[q]?) : Rows S' w' base v l := by
  obtain ⟨⟨h0, inner, hown, hr⟩, h2⟩ := h
  exact ⟨⟨h0, inner, own_move hown ho, hr.imp_ fun _ _ ⟨A, c, e1, e2, e3⟩ => ⟨A, c, e1, e2, e3.step g k⟩⟩, fun q hq => g.1 q (h2 q hq)⟩
theorem Rows.below {S : Nat → Prop} {w w' : World} {base : Nat} {v : Value} {l : List (List Int)} (h : Rows S w base v l) (hb : Below w.heap.size w w') : Rows S w' base v l :=
  h.step (Grows.refl _ _) (KeptS.below hb) fun q hq => hb.block q (Kd.R_lt h.row q hq)
theorem Rows.at {S : Nat → Prop} {w : World} {base : Nat} {v : Value} {l : List (List Int)} (h : Rows S w base v l) (i : Nat) (hi : i < l.length) : ∃ ad c A0 c0, v = .slice (some ad) l.length c ∧ l.length ≤ c ∧ w.cell? (ad.add i) = some (.slice A0 (l.getD i []).length c0) ∧ (l.getD i []).length ≤ c0 ∧ Safe S w A0 (l.getD i []) := by
  obtain ⟨A, c, rfl, hl, hC⟩ := Kd.R_reads h.row
  obtain ⟨ad, cs, e, _, hK, hc0⟩ := Kd.C_get hC ([] : List Int) (i : Int) (by omega) (by omega)
  simp only [Int.toNat_natCast] at hK hc0
  have hc : ∀ j u, cs[j]? = some u → w.cell? (ad.add (i * 1 + j)) = some u := hc0
  obtain ⟨A0, c0, rfl, l0, g0⟩ := hK
  subst e
  exact ⟨ad, c, A0, c0, rfl, hl, by have hq := hc 0 _ rfl; rwa [Nat.mul_one, Nat.add_zero] at hq, l0, g0⟩
end Go.Proofs.YtfhcpniibiobgaaDoor.Qf
namespace Go.Proofs.YtfhcpniibiobgaaDoor.Qf
open Go.RowKit Go.Proofs.YtfhcpniibiobgaaDoorW.PrintWords Go.Proofs.YtfhcpniibiobgaaDoorW.PrintLast Go.Proofs.YtfhcpniibiobgaaDoorW.PrintMore
open Hs (CB CL at_L at_B infoB infoL R_of_blk)
structure RSt (a0 a1 a2 a3 a4 a5 : Int) (w0 : World) (gr gf gs : Nat) (S : Nat → Prop) (w : World) (b e : Int) (vr vs : Value) (l : List (List Int)) (n : Nat) : Prop where
  below : Below w0.heap.size w0 w
  base : ∀ k, S k → w0.heap.size ≤ k
  top : ∀ k, S k → k < w.heap.size
  fac : w.heap[gf]? = some (facObj a0 a1 a2 a3 a4 a5)
  nfac : ¬ S gf
  obj : w.heap[gr]? = some (.cells #[.pointer (some ⟨gf, 0, none⟩), .int .u64 b, .int .u64 e, vr] 151 (0, 0))
  sobj : S gr
  rows : Rows S w w0.heap.size vr l
  seen : w.heap[gs]? = some (.cells #[vs] 37 (0, 0))
  sseen : S gs
  srow : kV.R 58 w (gs + 1) (fun _ => True) vs (List.replicate n ())
  sown : ∀ k, vs.ownBlock = some k → S k
theorem below_sz' {a b c : World} (h1 : Below a.heap.size a b) (h2 : Below a.heap.size b c) : Below a.heap.size a c := h1.trans h2
theorem two_types {w : World} {g t1 t2 : Nat} {c1 c2 : Array Value} (h1 : w.heap[g]? = some (.cells c1 t1 (0, 0))) (h2 : w.heap[g]? = some (.cells c2 t2 (0, 0))) : t1 = t2 := by
  rw [h1] at h2
  injection h2 with h2
  injection h2
section
variable {a0 a1 a2 a3 a4 a5 : Int} {w0 : World} {gr gf gs : Nat} {S : Nat → Prop} {w w' : World} {b e : Int} {vr vs : Value} {l : List (List Int)} {n : Nat}
theorem RSt.ne_gs (h : RSt a0 a1 a2 a3 a4 a5 w0 gr gf gs S w b e vr vs l n) : gr ≠ gs := fun he => by
  have h1 := h.obj
  rw [he] at h1
  exact absurd (two_types h1 h.seen) (by decide)
theorem RSt.step (h : RSt a0 a1 a2 a3 a4 a5 w0 gr gf gs S w b e vr vs l n) (hb : Below w.heap.size w w') : RSt a0 a1 a2 a3 a4 a5 w0 gr gf gs S w' b e vr vs l n where
  below := below_step h.below hb
  base := h.base
  top := fun k hk => Nat.lt_of_lt_of_le (h.top k hk) hb.size
  fac := blk_below h.fac hb
  nfac := h.nfac
  obj := blk_below h.obj hb
  sobj := h.sobj
  rows := h.rows.below hb
  seen := blk_below h.seen hb
  sseen := h.sseen
  srow := kV_below h.srow hb
  sown := h.sown
theorem RSt.rown (h : RSt a0 a1 a2 a3 a4 a5 w0 gr gf gs S w b e vr vs l n) : ∀ k, vr.ownBlock = some k → k ≠ gs ∧ some k ≠ vs.ownBlock ∧ k ≠ gr := fun k hk => by
  obtain ⟨_, ho⟩ := Kd.R_own h.rows.row
  obtain ⟨cells, hc⟩ := own_typed ho k hk
  refine ⟨fun he => ?_, Kd.R_ne h.srow hc (by decide), fun he => ?_⟩
  · subst he
    exact absurd (two_types hc h.seen) (by decide)
  · subst he
    exact absurd (two_types hc h.obj) (by decide)
theorem RSt.visit (h : RSt a0 a1 a2 a3 a4 a5 w0 gr gf gs S w b e vr vs l n) (lv ix : Int) (A : Option Addr) (c : Nat) (s : List Int) (hs : Safe S w A s) (hl : s.length ≤ 140737488351232) (hn : n ≤ 1000) :
    Calls Tryd.prog 64 #[.agg #[.int .u64 lv, .int .u64 ix], .slice A s.length c, .pointer (some ⟨gs, 0, none⟩)] w fun en w' => ∃ v0 vs' S', en = .returned v0 ∧ RSt a0 a1 a2 a3 a4 a5 w0 gr gf gs S' w' b e vr vs' l (n + 1) ∧ Grows S S' w ∧ KeptS S' w w' :=
  (visit_calls lv ix A c s gs n vs w hs.bytes hl h.seen (h.top _ h.sseen) h.srow hn).mono fun _ w' ⟨v0, v', h1, h2, h3, h4, h5, h6⟩ => by
    have hsz : w.heap.size ≤ w'.heap.size := h6.size
    have hgs : w0.heap.size ≤ gs := h.base _ h.sseen
    have hg : Grows S (fun k => S k ∨ v'.ownBlock = some k) w := ⟨fun k hk => .inl hk, fun k hk => by
      rcases hk with hk | hk
      · exact .inl hk
      · rcases h5 with h5 | ⟨b', h5, h7⟩
        · exact .inl (h.sown k (h5 ▸ hk))
        · rw [h5] at hk
          injection hk with hk
          exact .inr (by omega)⟩
    have hk : KeptS (fun k => S k ∨ v'.ownBlock = some k) w w' := ⟨hsz, fun k hk hS => h4 k hk (fun he => hS (.inl (he ▸ h.sseen))) (fun he => hS (.inl (h.sown k he.symm)))⟩
    have hgr : w'.heap[gr]? = w.heap[gr]? := h4 gr (h.top _ h.sobj) h.ne_gs (Kd.R_ne h.srow h.obj (by decide))
    refine ⟨v0, v', _, h1, ?_, hg, hk⟩
    exact {
      below := below_sz' h.below (h6.mono hgs)
      base := fun k hk => by
        rcases hg.2 k hk with h8 | h8
        · exact h.base k h8
        · exact Nat.le_trans h.below.size h8
      top := fun k hk => by
        rcases hk with hk | hk
        · exact Nat.lt_of_lt_of_le (h.top k hk) hsz
        · exact (kV_lt h3 k hk).2
      fac := (h4 gf (lt_of_block h.fac) (fun he => h.nfac (he ▸ h.sseen)) (fun he => h.nfac (h.sown gf he.symm))).trans h.fac
      nfac := fun hk => by
        rcases hg.2 gf hk with h8 | h8
        · exact h.nfac h8
        · have := lt_of_block h.fac
          omega
      obj := hgr.trans h.obj
      sobj := .inl h.sobj
      rows := h.rows.step hg hk fun q hq => h4 q (Kd.R_lt h.rows.row q hq) (h.rown q hq).1 (h.rown q hq).2.1
      seen := h2
      sseen := .inl h.sseen
      srow := h3
      sown := fun k hk => .inr hk }
end
end Go.Proofs.YtfhcpniibiobgaaDoor.Qf
namespace Go.Proofs.YtfhcpniibiobgaaDoor.Qf
open Go.RowKit Go.Proofs.YtfhcpniibiobgaaDoorW.PrintWords Go.Proofs.YtfhcpniibiobgaaDoorW.PrintLast Go.Proofs.YtfhcpniibiobgaaDoorW.PrintMore
open Hs (CB CL at_L at_B infoB infoL R_of_blk)
variable {a0 a1 a2 a3 a4 a5 : Int} {w0 : World} {gr gf gs : Nat} {S : Nat → Prop} {w w8 : World} {b e : Int} {vr vs : Value} {l : List (List Int)} {n : Nat}
theorem RSt.put (h : RSt a0 a1 a2 a3 a4 a5 w0 gr gf gs S w b e vr vs l n) {v2 : Value} {l2 : List (List Int)} (hrow : (kG S w).R 28 w8 w0.heap.size (fun _ => True) v2 l2)
    (hG : ∀ k, k < w.heap.size → some k ≠ vr.ownBlock → w8.heap[k]? = w.heap[k]?) (hsz : w.heap.size ≤ w8.heap.size) (hB : Below w0.heap.size w0 w8) (hA : v2.ownBlock = vr.ownBlock ∨ ∃ q, v2.ownBlock = some q ∧ w.heap.size ≤ q) (x : Int) :
    RSt a0 a1 a2 a3 a4 a5 w0 gr gf gs (fun k => S k ∨ v2.ownBlock = some k) ((w8.setCell ⟨gr, 3, none⟩ v2).setCell ⟨gr, 2, none⟩ (.int .u64 x)) b x v2 vs l2 n ∧ Grows S (fun k => S k ∨ v2.ownBlock = some k) w ∧ KeptS (fun k => S k ∨ v2.ownBlock = some k) w ((w8.setCell ⟨gr, 3, none⟩ v2).setCell ⟨gr, 2, none⟩ (.int .u64 x)) := by
  have hown : ∀ k, vr.ownBlock = some k → S k := h.rows.own
  have hrne : some gr ≠ vr.ownBlock := fun he => (h.rown gr he.symm).2.2 rfl
  have hgr8 : w8.heap[gr]? = some (.cells #[.pointer (some ⟨gf, 0, none⟩), .int .u64 b, .int .u64 e, vr] 151 (0, 0)) := (hG gr (h.top _ h.sobj) hrne).trans h.obj
  have far : ∀ k, k ≠ gr → ((w8.setCell ⟨gr, 3, none⟩ v2).setCell ⟨gr, 2, none⟩ (.int .u64 x)).heap[k]? = w8.heap[k]? := fun k hk => (Below.heap_setCell _ _ _ k hk).trans (Below.heap_setCell _ _ _ k hk)
  have size9 : ((w8.setCell ⟨gr, 3, none⟩ v2).setCell ⟨gr, 2, none⟩ (.int .u64 x)).heap.size = w8.heap.size := by simp [World.setCell]
  have hg : Grows S (fun k => S k ∨ v2.ownBlock = some k) w := ⟨fun k hk => .inl hk, fun k hk => by
    rcases hk with hk | hk
    · exact .inl hk
    · rcases hA with h5 | ⟨b', h5, h7⟩
      · exact .inl (hown k (h5 ▸ hk))
      · rw [h5] at hk
        injection hk with hk
        exact .inr (by omega)⟩
  have hk : KeptS (fun k => S k ∨ v2.ownBlock = some k) w ((w8.setCell ⟨gr, 3, none⟩ v2).setCell ⟨gr, 2, none⟩ (.int .u64 x)) := ⟨by rw [size9]; exact hsz, fun k hk hS => (far k (fun he => hS (.inl (he ▸ h.sobj)))).trans (hG k hk (fun he => hS (.inl (hown k he.symm))))⟩
  refine ⟨?_, hg, hk⟩
  have hob : ∀ q, v2.ownBlock = some q → q ≠ gr ∧ q < w8.heap.size ∧ w0.heap.size ≤ q := fun q hq => by
    obtain ⟨_, ho⟩ := Kd.R_own hrow
    obtain ⟨cells, hc⟩ := own_typed ho q hq
    refine ⟨fun he => ?_, Kd.R_lt hrow q hq, Kd.R_base hrow q hq⟩
    subst he
    exact absurd (two_types hc hgr8) (by decide)
  obtain ⟨h0, inner, hown2, hr⟩ := hrow
  exact {
    below := Below.setCell (Below.setCell hB (h.base _ h.sobj) _) (h.base _ h.sobj) _
    base := fun k hk => by
      rcases hk with hk | hk
      · exact h.base k hk
      · exact (hob k hk).2.2
    top := fun k hk => by
      rw [size9]
      rcases hk with hk | hk
      · exact Nat.lt_of_lt_of_le (h.top k hk) hsz
      · exact (hob k hk).2.1
    fac := (far gf (fun he => h.nfac (he ▸ h.sobj))).trans ((hG gf (lt_of_block h.fac) (fun he => h.nfac (hown gf he.symm))).trans h.fac)
    nfac := fun hk => by
      rcases hg.2 gf hk with h8 | h8
      · exact h.nfac h8
      · have := lt_of_block h.fac
        omega
    obj := by
      have h1 := blk_set (blk_set hgr8 3 v2) 2 (.int .u64 x)
      simpa using h1
    sobj := .inl h.sobj
    rows := ⟨⟨h0, inner, own_move hown2 (fun q hq => far q (hob q hq).1), hr.imp_ fun _ _ ⟨A, c, e1, e2, e3⟩ => ⟨A, c, e1, e2, e3.step hg hk⟩⟩, fun q hq => .inr hq⟩
    seen := (far gs (Ne.symm h.ne_gs)).trans ((hG gs (h.top _ h.sseen) (fun he => (h.rown gs he.symm).1 rfl)).trans h.seen)
    sseen := .inl h.sseen
    srow := kV_move h.srow fun q hq => (far q (fun he => Kd.R_ne h.srow h.obj (by decide) (he ▸ hq.symm))).trans (hG q (kV_lt h.srow q hq).2 (fun he => (h.rown q he.symm).2.1 hq.symm))
    sown := fun k hk => .inl (h.sown k hk) }
end Go.Proofs.YtfhcpniibiobgaaDoor.Qf
namespace Go.Proofs.YtfhcpniibiobgaaDoor.Qf
open Go.RowKit Go.Proofs.YtfhcpniibiobgaaDoorW.PrintWords Go.Proofs.YtfhcpniibiobgaaDoorW.PrintLast Go.Proofs.YtfhcpniibiobgaaDoorW.PrintMore
open Hs (CB CL at_L at_B infoB infoL R_of_blk)
theorem visA_ne (g : Nat) (W : World) : (binOp .neq 152 (.func (.func 64) #[] #[.pointer (some ⟨g, 0, none⟩)]) .nilFunc).run Tryd.prog W = .ok (.bool true) W := by kernel_rfl
def mgO (a0 a1 a2 a3 a4 a5 : Int) (l : List (List Int)) : Nat → List Int → Option (List Int)
  | 0, s => some s
  | n + 1, s => (mgO a0 a1 a2 a3 a4 a5 l n s).bind fun s' => (impl_toy_HashChildren.f a0 a1 a2 a3 a4 a5 (l.getD (l.length - (n + 1)) []) s').bind fun s2 => if s2.length ≤ 140737488351232 then some s2 else none
theorem mgO_pre {a0 a1 a2 a3 a4 a5 : Int} {l : List (List Int)} {s : List Int} : ∀ {n : Nat} {r : List Int}, mgO a0 a1 a2 a3 a4 a5 l n s = some r → ∀ t, t ≤ n → ∃ r', mgO a0 a1 a2 a3 a4 a5 l t s = some r'
  | 0, r, h, t, ht => by
    obtain rfl : t = 0 := by omega
    exact ⟨r, h⟩
  | n + 1, r, h, t, ht => by
    by_cases e : t = n + 1
    · subst e
      exact ⟨r, h⟩
    · rw [mgO] at h
      obtain ⟨r1, h1, _⟩ := Option.bind_eq_some_iff.1 h
      exact mgO_pre h1 t (by omega)
theorem mgO_next {a0 a1 a2 a3 a4 a5 : Int} {l : List (List Int)} {s s' s2 : List Int} {t : Nat} (h : mgO a0 a1 a2 a3 a4 a5 l t s = some s') (h2 : mgO a0 a1 a2 a3 a4 a5 l (t + 1) s = some s2) : impl_toy_HashChildren.f a0 a1 a2 a3 a4 a5 (l.getD (l.length - (t + 1)) []) s' = some s2 ∧ s2.length ≤ 140737488351232 := by
  rw [mgO, h, Option.bind_some] at h2
  obtain ⟨r, h3, h4⟩ := Option.bind_eq_some_iff.1 h2
  split at h4
  · obtain rfl := Option.some.inj h4
    exact ⟨h3, by assumption⟩
  · cases h4
set_option maxHeartbeats 4000000 in
set_option maxRecDepth 100000 in
theorem appendImpl_one (a0 a1 a2 a3 a4 a5 : Int) (w0 : World) (gr gf gs : Nat) (S : Nat → Prop) (w : World) (b e x : Nat) (vr vs : Value) (l : List (List Int)) (n0 : Nat) (As : Option Addr) (cs : Nat) (s t : List Int) (low hgh n : Nat) (h : RSt a0 a1 a2 a3 a4 a5 w0 gr gf gs S w (b : Int) (e : Int) vr vs l n0) (hs : Safe S w As s) (hsc : s.length ≤ cs) (HG_ : Glob w0)
    (hx : e < 18446744073709551616) (hmp : compact_getMergePath.f (b : Int) (e : Int) (x : Int) = some ((low : Int), (hgh : Int))) (hlh : low ≤ hgh) (hn : low + n = hgh) (hh : hgh ≤ 64) (hnl : n ≤ l.length) (hn0 : n0 + n ≤ 1000) (hll : l.length ≤ 1000)
    (hones : bits_OnesCount64.f (Go.bits .and .u64 ((e : Int) / 2 ^ low) (IntKind.u64.wrap (IntKind.u64.wrap ((2 : Int) ^ n) - 1))) = some (n : Int)) (hbits : ∀ i, i < n → e / 2 ^ low / 2 ^ i % 2 = 1)
    (hm : mgO a0 a1 a2 a3 a4 a5 l n s = some t) :
    Calls Tryd.prog 98 #[.pointer (some ⟨gr, 0, none⟩), .int .u64 (x : Int), .slice As s.length cs, .slice none 0 0, .func (.func 64) #[] #[.pointer (some ⟨gs, 0, none⟩)]] w fun en w' => ∃ vr' vs' S', en = .returned .nilIface ∧ RSt a0 a1 a2 a3 a4 a5 w0 gr gf gs S' w' (b : Int) (x : Int) vr' vs' (l.take (l.length - n) ++ [t]) (n0 + n) ∧ Grows S S' w ∧ KeptS S' w w' := by
  have HR := aq h
  have HS := aq hs
  have HG := aq HG_
  have HMP := aq hmp
  have HM := aq hm
  have HON := aq hones
  have HBI := aq hbits
  clear h hs HG_ hmp hm hones hbits
  obtain ⟨A, c, rfl, hlc, _⟩ := Kd.R_reads HR.out.rows.row
  have k0 : w.cell? ⟨gr, 0, none⟩ = some (.pointer (some ⟨gf, 0, none⟩)) := (blk_cell HR.out.obj 0).trans rfl
  have k1 : w.cell? ⟨gr, 1, none⟩ = some (.int .u64 (b : Int)) := (blk_cell HR.out.obj 1).trans rfl
  have k2 : w.cell? ⟨gr, 2, none⟩ = some (.int .u64 (e : Int)) := (blk_cell HR.out.obj 2).trans rfl
  have k3 : w.cell? ⟨gr, 3, none⟩ = some (.slice A l.length c) := (blk_cell HR.out.obj 3).trans rfl
  have t1 : decide ((hgh : Int) < (low : Int)) = false := decide_eq_false (by omega)
  have t1n : decide (hgh < low) = false := decide_eq_false (by omega)
  have hsub : ∀ z : Int, z = (low : Int) → IntKind.u64.wrap ((hgh : Int) - z) = (n : Int) := fun z hz => by
    rw [hz, show ((hgh : Int) - (low : Int)) = (n : Int) by omega]
    show (n : Int) % 18446744073709551616 = _
    omega
  go_enter Tryd.func98, Tryd.ntmps98
  go_wp2
  go_region_held3 (fun w' => w'.cell? ⟨gr, 1, none⟩ = some (.int .u64 (b : Int)) ∧ w'.cell? ⟨gr, 2, none⟩ = some (.int .u64 (e : Int)) ∧ Below w.heap.size w w')
    (((try dsimp only); (try go_split_ands); (repeat' apply And.intro) <;> first | (go_keep; done) | exact below_drew (Below.refl _ _) | (refine pw_cell_below hb ?_; assumption) | (refine below_then ?_ ?_ hb; assumption; exact Below.size (by assumption))))
    ((go_at_call 115; have hB0 := aq (show Below w.heap.size w _ by go_split_ands; assumption); refine (compact_getMergePath.calls (b : Int) (e : Int) (x : Int) (low : Int) (hgh : Int) _ (Glob.below HG.out (below_sz' HR.out.below ((Below.mono hB0.out HR.out.below.size)))) HMP.out).mono ?_; rintro en w1 ⟨rfl, hd⟩; have hb := hd.below))
  go_split_ands
  have hB1 : Below w.heap.size w w1 := by assumption
  have HR1 := aq (HR.out.step hB1)
  have HS1 := aq (HS.out.below hB1)
  have k0 : w1.cell? ⟨gr, 0, none⟩ = some (.pointer (some ⟨gf, 0, none⟩)) := (blk_cell HR1.out.obj 0).trans rfl
  have k2 : w1.cell? ⟨gr, 2, none⟩ = some (.int .u64 (e : Int)) := (blk_cell HR1.out.obj 2).trans rfl
  have k3 : w1.cell? ⟨gr, 3, none⟩ = some (.slice A l.length c) := (blk_cell HR1.out.obj 3).trans rfl
  have t2 : decide ((l.length : Int) < (n : Int)) = false := decide_eq_false (by omega)
  have t2n : decide (l.length < n) = false := decide_eq_false (by omega)
  have hz1 : ∀ z : Int, z = (n : Int) → wrap64 z = (n : Int) := fun z hz => by rw [hz]; exact w64_in _ (by omega)
  go_wp2_with (first
    | (go_at_call 113; (with_reducible refine (bits_OnesCount64.calls _ _ _ HON.out).mono ?_); rintro en w2 ⟨rfl, hd⟩; have HR2 := aq (HR1.out.step hd.below); have HS2 := aq (HS1.out.below hd.below); have HK2 := aq (below_then hB1 hB1.size hd.below); have k0 := pw_cell_below hd.below k0; have k2 := pw_cell_below hd.below k2; have k3 := pw_cell_below hd.below k3; clear hd))
  (try simp only [Act.put, List.setIfInBounds_toArray, List.set_cons_zero, List.set_cons_succ])
  obtain ⟨ix0, hix0⟩ : ∃ q : Nat, q = e / 2 ^ low := ⟨_, rfl⟩
  have hix : (e : Int) / 2 ^ low = (ix0 : Int) := by rw [hix0]; push_cast; rfl
  have hixl : ix0 < 18446744073709551616 := by rw [hix0]; exact Nat.lt_of_le_of_lt (Nat.div_le_self _ _) hx
  rw [← hix0] at HBI
  have HPRE := aq (fun t ht => mgO_pre HM.out t ht)
  go_loopg [2, 13, 18, 19, 20] n (fun kq v2 v13 v18 v19 v20 wr => ∃ (j ix p : Nat) (s' : List Int) (A' : Option Addr) (c' : Nat) (vs' : Value) (S' : Nat → Prop), j + kq = n ∧ v2 = .slice A' s'.length c' ∧ v13 = .int .u64 (ix : Int) ∧ ix = ix0 / 2 ^ j ∧ v18 = .int .i64 (p : Int) ∧ p + j = l.length ∧ v19 = .int .i64 0 ∧ v20 = .int .u64 ((low + j : Nat) : Int) ∧ Aside0 (s'.length ≤ c') ∧ Aside0 (RSt a0 a1 a2 a3 a4 a5 w0 gr gf gs S' wr (b : Int) (e : Int) (.slice A l.length c) vs' l (n0 + j)) ∧ Aside0 (Safe S' wr A' s') ∧ Aside0 (Grows S S' w) ∧ Aside0 (KeptS S' w wr) ∧ Aside0 (mgO a0 a1 a2 a3 a4 a5 l j s = some s'))
  case atStart => exact ⟨0, ix0, l.length, s, As, cs, vs, S, by omega, rfl, by rw [hix], by simp, rfl, by omega, rfl, rfl, ⟨hsc⟩, HR2, HS2, ⟨Grows.refl _ _⟩, ⟨KeptS.below HK2.out⟩, ⟨rfl⟩⟩
  case round =>
    clear k0 k1 k2 k3 HR2 HS2 HK2 HR1 HS1 HR HS t1 t1n t2 t2n hsub hz1 hix
    obtain ⟨j, ix, p, s', A', c', vs', S', hjk, rfl, rfl, hixe, rfl, hpl, rfl, rfl, HSC, HR, HS, HGr, HKp, HMj⟩ := hrel
    rename World => wr
    have k0 : wr.cell? ⟨gr, 0, none⟩ = some (.pointer (some ⟨gf, 0, none⟩)) := (blk_cell HR.out.obj 0).trans rfl
    have k3 : wr.cell? ⟨gr, 3, none⟩ = some (.slice A l.length c) := (blk_cell HR.out.obj 3).trans rfl
    have kf : wr.cell? ⟨gf, 0, none⟩ = some (.func (.func 53) #[.agg #[.int .i64 a0, .int .i64 a1, .int .i64 a2, .int .u64 a3, .int .u64 a4, .int .u64 a5]] #[]) := (blk_cell HR.out.fac 0).trans rfl
    by_cases hlt : j < n
    · have HJ := aq hjk
      have u1 : decide (((low + j : Nat) : Int) < (hgh : Int)) = true := decide_eq_true (by omega)
      have hb1 : ix % 2 = 1 := by rw [hixe]; exact HBI.out j hlt
      have hixl2 : ix < 18446744073709551616 := by rw [hixe]; exact Nat.lt_of_le_of_lt (Nat.div_le_self _ _) hixl
      have u2 : (Go.bits .and .u64 (ix : Int) 1 == 0) = false := beq_eq_false_iff_ne.2 (by
        rw [show (1 : Int) = ((1 : Nat) : Int) from rfl, bits_and_u64_nat ix 1 hixl2 (by omega), Nat.and_one_is_mod, hb1]
        decide)
      obtain ⟨q, rfl⟩ : ∃ q, p = q + 1 := ⟨p - 1, by omega⟩
      have HPL := aq hpl
      have HIX := aq hixe
      have u3 : ∀ z : Int, z = 1 → wrap64 (((q + 1 : Nat) : Int) - z) = (q : Int) := fun z hz => by rw [hz, w64_in _ (by omega)]; omega
      obtain ⟨s2, hs2⟩ := HPRE.out (j + 1) (by omega)
      obtain ⟨hhc, hs2l⟩ := mgO_next HMj.out hs2
      rw [show l.length - (j + 1) = q by omega] at hhc
      obtain ⟨ad, cA, Ah, ch, ead, _, hxc, hlh, hsafe⟩ := HR.out.rows.at q (by omega)
      injection ead with ead1 ead2 ead3
      subst ead1 ead3
      generalize l.getD q [] = hsh at hhc hxc hlh hsafe
      have HHC := aq hhc
      have HSF := aq hsafe
      have HLh := aq hlh
      have HS2L := aq hs2l
      have HMn := aq hs2
      have q0 : (0 : Int) ≤ (q : Int) := by omega
      have q1 : (q : Int) < (l.length : Int) := by omega
      clear hhc hsafe hlh hs2l hs2 hjk hpl hixe hb1 HMj
      go_wp2
      go_region_held3 (fun w' => w'.cell? ⟨gr, 0, none⟩ = some (.pointer (some ⟨gf, 0, none⟩)) ∧ w'.cell? ⟨gr, 3, none⟩ = some (.slice (some ad) l.length c) ∧ w'.cell? ⟨gf, 0, none⟩ = some (.func (.func 53) #[.agg #[.int .i64 a0, .int .i64 a1, .int .i64 a2, .int .u64 a3, .int .u64 a4, .int .u64 a5]] #[]) ∧ w'.cell? (ad.add q) = some (.slice Ah hsh.length ch) ∧ Below wr.heap.size wr w')
        (((try dsimp only); (try go_split_ands); (repeat' apply And.intro) <;> first | (go_keep; done) | exact below_drew (Below.refl _ _) | (refine pw_cell_below hb ?_; assumption) | (refine below_then ?_ ?_ hb; assumption; exact Below.size (by assumption))))
        ((go_at_call 53; have hB0 := aq (show Below wr.heap.size wr _ by go_split_ands; assumption); refine (impl_toy_HashChildren.calls a0 a1 a2 a3 a4 a5 Ah ch hsh A' c' s' s2 _ (Kd.C_below HSF.out.bytes hB0.out) HLh.out (Kd.C_below HS.out.bytes hB0.out) HSC.out HHC.out).mono ?_; rintro en w3 ⟨v3, rfl, hR3, hb⟩))
      obtain ⟨A3, c3, rfl, hl3, hC3⟩ := Kd.R_reads hR3
      have HR0 := HR.out.step hB0.out
      have HS3 := aq (Safe.new (S := S') HR0.top hR3)
      have HR3 := aq (HR0.step hb)
      have HK3 := aq (HKp.out.trans (Grows.refl _ _) (KeptS.below (S := S') (below_then hB0.out hB0.out.size hb)))
      have HL3 := aq hl3
      clear hR3 hC3 hl3 HR0 hb hB0 HR HS HSC HSF HLh HHC
      have hne := visA_ne gs
      go_split_ands
      go_wp2_with (first
        | (go_at_call 90; (with_reducible refine (compact_NewNodeID.calls _ _ _ _ _ rfl).mono ?_); rintro en w5 ⟨rfl, hb⟩; have HK3 := aq (HK3.out.trans (Grows.refl _ _) (KeptS.below (S := S') (HR3.out.below.size |> fun _ => hb))); have HS3 := aq (HS3.out.below hb); have HR3 := aq (HR3.out.step hb); clear hb)
        | (go_at_call 64; (with_reducible refine (HR3.out.visit _ _ A3 c3 s2 HS3.out HS2L.out (by omega)).mono ?_); rintro en w6 ⟨v0, vs6, S6, rfl, hR6, hG6, hK6⟩; have HR6 := aq hR6; have HG6 := aq hG6; have HK6 := aq hK6; clear hR6 hG6 hK6))
      have HGw : Aside0 (Grows S' S6 w) := ⟨HG6.out.1, fun i hi => (HG6.out.2 i hi).imp id fun h => Nat.le_trans HK3.out.size h⟩
      go_roundg (n - (j + 1))
      case measure => have := HJ.out; omega
      case rel => exact ⟨j + 1, ix / 2, q, s2, A3, c3, vs6, S6, by have := HJ.out; omega, rfl, by rw [show ((ix / 2 : Nat) : Int) = (ix : Int) / 2 by omega], by rw [HIX.out, Nat.div_div_eq_div_mul, ← Nat.pow_succ], rfl, by have := HPL.out; omega, rfl, by rw [show ((low + (j + 1) : Nat) : Int) = (low : Int) + (j : Int) + 1 by omega], HL3, HR6, ⟨HS3.out.step HG6.out HK6.out⟩, ⟨HGr.out.trans (by exact Nat.le_refl _) HGw.out⟩, ⟨HK3.out.trans HGw.out HK6.out⟩, HMn⟩
    · have hjn : j = n := by omega
      subst hjn
      have u1 : decide (((low + j : Nat) : Int) < (hgh : Int)) = false := decide_eq_false (by omega)
      have u1n : decide (low + j < hgh) = false := decide_eq_false (by omega)
      go_wp2
      obtain ⟨iL, hiL, hsL⟩ := Option.map_eq_some_iff.1 infoL
      have hcut1 : ∀ W : World, (Instr.slice 25 (.slice A l.length c) none (some (.int .i64 (p : Int))) none).run Tryd.prog W = .ok (.slice A p c) W := fun W => by
        have h := cut_to (P := Tryd.prog) 25 28 .i64 Tryd.underlying25 hiL A l.length c (p : Int) (by omega) (by omega) hlc W
        rw [Int.toNat_natCast] at h
        exact h
      have hcut2 : ∀ W : World, (Instr.slice 25 (.slice none 0 0) (some (.int .i64 0)) none none).run Tryd.prog W = .ok (.slice none 0 0) W := fun W => by kernel_rfl
      clear hiL hsL
      have HRz := aq (HR.out.step (below_drew (Below.refl wr.heap.size wr)))
      have HSz := aq (HS.out.below (below_drew (Below.refl wr.heap.size wr)))
      have HKz := aq (HKp.out.trans (Grows.refl _ _) (KeptS.below (S := S') (below_drew (Below.refl wr.heap.size wr))))
      refine start_ (n := 17) (S := fun w' => w'.cell? ⟨gr, 3, none⟩ = some (.slice A l.length c)) (ds := [16]) #[false, false, false, false, false, false, false, false, false, false, false, false, false, false, false, false, false] (by kernel_rfl) rfl rfl ((blk_cell HRz.out.obj 3).trans rfl) (fun hHeld => ?_)
      generalize wr.drew = wz at HRz HSz HKz hHeld ⊢
      clear k0 k3 kf HR HS HKp
      refine pu 0 131 ?_
      refine pu 1 132 ?_
      refine pu 2 133 ?_
      refine pu 3 134 ?_
      refine ta 4 135 hHeld ?_
      refine pu 5 136 ?_
      refine pu 6 137 ?_
      refine pu 7 138 ?_
      refine pu 10 141 ?_
      refine pu 11 142 ?_
      refine pu 12 143 ?_
      refine on1 8 139 fun K hK => ?_
      refine event_step rfl (v := .slice (some ⟨_, 0, none⟩) 1 1) (w1 := World.alloc _ (.cells #[.slice A' s'.length c'] 28)) (by first | (go_simp; done) | (go_simp; rfl) | (go_simp; exact ⟨rfl, rfl⟩)) ?_
      refine hK.out _ _ ((blk_cell (blk_below HRz.out.obj (below_alloc (Below.refl _ _) _)) 3).trans rfl) (fun hHeld => ?_)
      clear hK K
      refine nm ?_
      refine on1 9 140 fun K hK => ?_
      refine Kd.R_append_step (kG S' wz) (w0 := w0) w0.heap.size rfl (.tmp 137) (.tmp 139) 25 28 (.slice none 0 0) 24 rfl Tryd.underlying25 infoL rfl Nat.zero_lt_one (by omega) (.slice A p c) (l.take p) s' [.slice A' s'.length c'] (fun _ => True) (fun _ => False) rfl rfl ⟨A', c', rfl, HSC.out, HSz.out⟩ (fun _ h => h.elim) (fun _ _ => trivial) (Kd.R_take HRz.out.rows.row (by omega)) HRz.out.below HRz.out.below.size (by rw [List.length_take]; omega) ?_
      intro v1 w1 hR1 hB1 hG1 hA1
      have eqo : (Value.slice A p c).ownBlock = (Value.slice A l.length c).ownBlock := by cases A <;> rfl
      rw [eqo] at hG1 hA1
      have hz0 := lt_of_block HRz.out.obj
      have hne3 : some gr ≠ (Value.slice A l.length c).ownBlock := fun he => (HRz.out.rown gr he.symm).2.2 rfl
      have hobj1 := (hG1.block gr hz0 hne3).trans HRz.out.obj
      refine hK.out _ _ ((blk_cell hobj1 3).trans rfl) (fun hHeld => ?_)
      clear hK K
      refine nm ?_
      refine on1 13 144 fun K hK => ?_
      refine Kd.R_append_rows_step (kG S' wz) (Rr := fun _ _ => False) (w0 := w0) w0.heap.size rfl (.tmp 140) (.tmp 143) 25 28 (.slice none 0 0) 24 rfl Tryd.underlying25 infoL rfl Nat.zero_lt_one (by omega) v1 (l.take p ++ [s']) [] none 0 0 (fun _ => True) (fun _ => False) rfl rfl hR1 ⟨rfl, by simp, fun h => by simp at h⟩ (fun _ _ h => h.elim) (fun _ h => h.elim) (fun _ _ => trivial) hB1 (hB1.size) (by rw [List.length_append, List.length_take, List.length_singleton]; omega) ?_
      intro v2 w2' hR2 hB2 hG2 hA2
      have hsz1 : wz.heap.size ≤ w1.heap.size := hG1.size
      have hsz2 : w1.heap.size ≤ w2'.heap.size := hG2.size
      have own1 : ∀ q, q < wz.heap.size → some q ≠ (Value.slice A l.length c).ownBlock → some q ≠ v1.ownBlock := fun q hq hne he => by
        rcases hA1 with h1 | ⟨b1, h1, h2⟩
        · exact hne (he.trans h1)
        · rw [h1] at he
          injection he with he
          omega
      have hG12 : ∀ q, q < wz.heap.size → some q ≠ (Value.slice A l.length c).ownBlock → w2'.heap[q]? = wz.heap[q]? := fun q hq hne => (hG2.block q (by omega) (own1 q hq hne)).trans (hG1.block q hq hne)
      have hA12 : v2.ownBlock = (Value.slice A l.length c).ownBlock ∨ ∃ q, v2.ownBlock = some q ∧ wz.heap.size ≤ q := by
        rcases hA2 with h1 | ⟨b1, h1, h2⟩
        · rcases hA1 with h3 | ⟨b3, h3, h4⟩
          · exact .inl (h1.trans h3)
          · exact .inr ⟨b3, h1.trans h3, h4⟩
        · exact .inr ⟨b1, h1, by omega⟩
      rw [List.append_nil] at hR2
      have hobj2 := (hG12 gr hz0 hne3).trans HRz.out.obj
      obtain ⟨hP1, hP2, hP3⟩ := HRz.out.put hR2 hG12 (Nat.le_trans hsz1 hsz2) hB2 hA12 (x : Int)
      obtain ⟨Av, cv, rfl⟩ := Kd.R_slice hR2
      refine hK.out _ _ ((blk_cell hobj2 3).trans rfl) (fun hHeld => ?_)
      clear hK K
      refine nm ?_
      refine pu 14 145 ?_
      refine pu 15 146 ?_
      have hc3 : w2'.cell? ⟨gr, 3, none⟩ = some (.slice A l.length c) := (blk_cell hobj2 3).trans rfl
      have hf3 : w2'.frozen? ⟨gr, 3, none⟩ = false := blk_frozen hobj2 3
      clear hHeld
      refine last_ (i := 16) (N := none) #[true, true, true, true, true, true, true, true, true, true, true, true, true, true, true, true, true] rfl rfl (by kernel_rfl) (by simp) (fun K hK => ?_)
      refine store_step rfl (w1 := w2'.setCell ⟨gr, 3, none⟩ (.slice Av (l.take p ++ [s']).length cv)) (by first | (go_simp; done) | (go_simp; rfl) | (go_simp; exact ⟨rfl, rfl⟩)) ?_
      refine hK.out _ _ ?_
      clear hK K
      refine norm_ (a' := ?_) ?_ ?_
      rotate_left
      · show Act.put _ none _ = _
        first | rfl | (simp only [Act.put]; rfl) | simp only [Act.put]
      refine done_ (by kernel_rfl) ?_
      have hobj3 := blk_set hobj2 3 (.slice Av (l.take p ++ [s']).length cv)
      have hc2 : (w2'.setCell ⟨gr, 3, none⟩ (.slice Av (l.take p ++ [s']).length cv)).cell? ⟨gr, 2, none⟩ = some (.int .u64 (e : Int)) := (blk_cell hobj3 2).trans (by simp)
      have hf2 : (w2'.setCell ⟨gr, 3, none⟩ (.slice Av (l.take p ++ [s']).length cv)).frozen? ⟨gr, 2, none⟩ = false := blk_frozen hobj3 2
      generalize (w2'.setCell ⟨gr, 3, none⟩ (.slice Av (l.take p ++ [s']).length cv)) = w9 at hP1 hP3 hc2 hf2 ⊢
      have HP1 := aq hP1
      have HP3 := aq hP3
      have HP2 := aq hP2
      clear hP1 hP2 hP3 hobj1 hobj2 hobj3 hc3 hf3 hG12 hA12 hG1 hA1 hB1 hR1 hG2 hA2 hB2 hR2 own1 hne3 eqo
      go_wp2
      go_ret
      have est : s' = t := Option.some.inj (HMj.out.symm.trans HM.out)
      have ep : l.length - j = p := by omega
      have hGw : Grows S' _ w := ⟨HP2.out.1, fun i hi => (HP2.out.2 i hi).imp id fun h => Nat.le_trans HKz.out.size h⟩
      rw [ep, ← est]
      exact ⟨_, _, _, rfl, HP1.out, HGr.out.trans (Nat.le_refl _) hGw, HKz.out.trans hGw HP3.out⟩
end Go.Proofs.YtfhcpniibiobgaaDoor.Qf
namespace Go.Proofs.YtfhcpniibiobgaaDoor.Qf
open Go.RowKit Go.Proofs.YtfhcpniibiobgaaDoorW.PrintWords Go.Proofs.YtfhcpniibiobgaaDoorW.PrintLast Go.Proofs.YtfhcpniibiobgaaDoorW.PrintMore
open Hs (CB CL at_L at_B infoB infoL R_of_blk)
set_option maxHeartbeats 4000000 in
set_option maxRecDepth 100000 in
theorem appendImpl_none (a0 a1 a2 a3 a4 a5 : Int) (w0 : World) (gr gf gs : Nat) (S : Nat → Prop) (w : World) (b e x : Nat) (vr vs : Value) (l : List (List Int)) (n0 : Nat) (As : Option Addr) (cs : Nat) (s : List Int) (low hgh : Nat) (h : RSt a0 a1 a2 a3 a4 a5 w0 gr gf gs S w (b : Int) (e : Int) vr vs l n0) (hs : Safe S w As s) (hsc : s.length ≤ cs) (HG_ : Glob w0)
    (hmp : compact_getMergePath.f (b : Int) (e : Int) (x : Int) = some ((low : Int), (hgh : Int))) (hlh : hgh < low) (hh : low ≤ 64) (hll : l.length ≤ 1000)
    (hones : bits_OnesCount64.f (Go.bits .and .u64 ((e : Int) / 2 ^ low) 0) = some 0) :
    Calls Tryd.prog 98 #[.pointer (some ⟨gr, 0, none⟩), .int .u64 (x : Int), .slice As s.length cs, .slice none 0 0, .func (.func 64) #[] #[.pointer (some ⟨gs, 0, none⟩)]] w fun en w' => ∃ vr' vs' S', en = .returned .nilIface ∧ RSt a0 a1 a2 a3 a4 a5 w0 gr gf gs S' w' (b : Int) (x : Int) vr' vs' (l ++ [s]) n0 ∧ Grows S S' w ∧ KeptS S' w w' := by
  have HR := aq h
  have HS := aq hs
  have HG := aq HG_
  have HMP := aq hmp
  have HON := aq hones
  clear h hs HG_ hmp hones
  obtain ⟨A, c, rfl, hlc, _⟩ := Kd.R_reads HR.out.rows.row
  have k0 : w.cell? ⟨gr, 0, none⟩ = some (.pointer (some ⟨gf, 0, none⟩)) := (blk_cell HR.out.obj 0).trans rfl
  have k1 : w.cell? ⟨gr, 1, none⟩ = some (.int .u64 (b : Int)) := (blk_cell HR.out.obj 1).trans rfl
  have k2 : w.cell? ⟨gr, 2, none⟩ = some (.int .u64 (e : Int)) := (blk_cell HR.out.obj 2).trans rfl
  have k3 : w.cell? ⟨gr, 3, none⟩ = some (.slice A l.length c) := (blk_cell HR.out.obj 3).trans rfl
  have t1 : decide ((hgh : Int) < (low : Int)) = true := decide_eq_true (by omega)
  have t1n : decide (hgh < low) = true := decide_eq_true (by omega)
  go_enter Tryd.func98, Tryd.ntmps98
  go_wp2
  go_region_held3 (fun w' => w'.cell? ⟨gr, 1, none⟩ = some (.int .u64 (b : Int)) ∧ w'.cell? ⟨gr, 2, none⟩ = some (.int .u64 (e : Int)) ∧ Below w.heap.size w w')
    (((try dsimp only); (try go_split_ands); (repeat' apply And.intro) <;> first | (go_keep; done) | exact below_drew (Below.refl _ _) | (refine pw_cell_below hb ?_; assumption) | (refine below_then ?_ ?_ hb; assumption; exact Below.size (by assumption))))
    ((go_at_call 115; have hB0 := aq (show Below w.heap.size w _ by go_split_ands; assumption); refine (compact_getMergePath.calls (b : Int) (e : Int) (x : Int) (low : Int) (hgh : Int) _ (Glob.below HG.out (below_sz' HR.out.below ((Below.mono hB0.out HR.out.below.size)))) HMP.out).mono ?_; rintro en w1 ⟨rfl, hd⟩; have hb := hd.below))
  go_split_ands
  have hB1 : Below w.heap.size w w1 := by assumption
  have HR1 := aq (HR.out.step hB1)
  have HS1 := aq (HS.out.below hB1)
  have k0 : w1.cell? ⟨gr, 0, none⟩ = some (.pointer (some ⟨gf, 0, none⟩)) := (blk_cell HR1.out.obj 0).trans rfl
  have k2 : w1.cell? ⟨gr, 2, none⟩ = some (.int .u64 (e : Int)) := (blk_cell HR1.out.obj 2).trans rfl
  have k3 : w1.cell? ⟨gr, 3, none⟩ = some (.slice A l.length c) := (blk_cell HR1.out.obj 3).trans rfl
  have t2 : decide ((l.length : Int) < 0) = false := decide_eq_false (by omega)
  go_wp2_with (first
    | (go_at_call 113; (with_reducible refine (bits_OnesCount64.calls _ _ _ HON.out).mono ?_); rintro en w2 ⟨rfl, hd⟩; have HR2 := aq (HR1.out.step hd.below); have HS2 := aq (HS1.out.below hd.below); have HK2 := aq (below_then hB1 hB1.size hd.below); have k0 := pw_cell_below hd.below k0; have k2 := pw_cell_below hd.below k2; have k3 := pw_cell_below hd.below k3; clear hd))
  (try simp only [Act.put, List.setIfInBounds_toArray, List.set_cons_zero, List.set_cons_succ])
  go_loopg [2, 13, 18, 19, 20] 0 (fun kq v2 v13 v18 v19 v20 wr => v2 = .slice As s.length cs ∧ v13 = .int .u64 ((e : Int) / 2 ^ low) ∧ v18 = .int .i64 (l.length : Int) ∧ v19 = .int .i64 0 ∧ v20 = .int .u64 (low : Int) ∧ Aside0 (RSt a0 a1 a2 a3 a4 a5 w0 gr gf gs S wr (b : Int) (e : Int) (.slice A l.length c) vs l n0) ∧ Aside0 (Safe S wr As s) ∧ Aside0 (KeptS S w wr))
  case atStart => exact ⟨rfl, rfl, rfl, rfl, rfl, HR2, HS2, ⟨KeptS.below HK2.out⟩⟩
  case round =>
    clear k0 k1 k2 k3 HR2 HS2 HK2 HR1 HS1 HR HS t1 t1n t2
    obtain ⟨rfl, rfl, rfl, rfl, rfl, HR, HS, HKp⟩ := hrel
    rename World => wr
    have HSC := aq hsc
    go_wp2
    obtain ⟨iL, hiL, hsL⟩ := Option.map_eq_some_iff.1 infoL
    have hcut1 : ∀ W : World, (Instr.slice 25 (.slice A l.length c) none (some (.int .i64 (l.length : Int))) none).run Tryd.prog W = .ok (.slice A l.length c) W := fun W => by
      have h := cut_to (P := Tryd.prog) 25 28 .i64 Tryd.underlying25 hiL A l.length c (l.length : Int) (by omega) (by omega) hlc W
      rw [Int.toNat_natCast] at h
      exact h
    have hcut2 : ∀ W : World, (Instr.slice 25 (.slice none 0 0) (some (.int .i64 0)) none none).run Tryd.prog W = .ok (.slice none 0 0) W := fun W => by kernel_rfl
    clear hiL hsL
    have HRz := aq (HR.out.step (below_drew (Below.refl wr.heap.size wr)))
    have HSz := aq (HS.out.below (below_drew (Below.refl wr.heap.size wr)))
    have HKz := aq (HKp.out.trans (Grows.refl _ _) (KeptS.below (S := S) (below_drew (Below.refl wr.heap.size wr))))
    refine start_ (n := 17) (S := fun w' => w'.cell? ⟨gr, 3, none⟩ = some (.slice A l.length c)) (ds := [16]) #[false, false, false, false, false, false, false, false, false, false, false, false, false, false, false, false, false] (by kernel_rfl) rfl rfl ((blk_cell HRz.out.obj 3).trans rfl) (fun hHeld => ?_)
    generalize wr.drew = wz at HRz HSz HKz hHeld ⊢
    clear HR HS HKp
    refine pu 0 131 ?_
    refine pu 1 132 ?_
    refine pu 2 133 ?_
    refine pu 3 134 ?_
    refine ta 4 135 hHeld ?_
    refine pu 5 136 ?_
    refine pu 6 137 ?_
    refine pu 7 138 ?_
    refine pu 10 141 ?_
    refine pu 11 142 ?_
    refine pu 12 143 ?_
    refine on1 8 139 fun K hK => ?_
    refine event_step rfl (v := .slice (some ⟨_, 0, none⟩) 1 1) (w1 := World.alloc _ (.cells #[.slice As s.length cs] 28)) (by first | (go_simp; done) | (go_simp; rfl) | (go_simp; exact ⟨rfl, rfl⟩)) ?_
    refine hK.out _ _ ((blk_cell (blk_below HRz.out.obj (below_alloc (Below.refl _ _) _)) 3).trans rfl) (fun hHeld => ?_)
    clear hK K
    refine nm ?_
    refine on1 9 140 fun K hK => ?_
    refine Kd.R_append_step (kG S wz) (w0 := w0) w0.heap.size rfl (.tmp 137) (.tmp 139) 25 28 (.slice none 0 0) 24 rfl Tryd.underlying25 infoL rfl Nat.zero_lt_one (by omega) (.slice A l.length c) l s [.slice As s.length cs] (fun _ => True) (fun _ => False) rfl rfl ⟨As, cs, rfl, HSC.out, HSz.out⟩ (fun _ h => h.elim) (fun _ _ => trivial) HRz.out.rows.row HRz.out.below HRz.out.below.size (by omega) ?_
    intro v1 w1 hR1 hB1 hG1 hA1
    have eqo : (Value.slice A l.length c).ownBlock = (Value.slice A l.length c).ownBlock := by cases A <;> rfl
    rw [eqo] at hG1 hA1
    have hz0 := lt_of_block HRz.out.obj
    have hne3 : some gr ≠ (Value.slice A l.length c).ownBlock := fun he => (HRz.out.rown gr he.symm).2.2 rfl
    have hobj1 := (hG1.block gr hz0 hne3).trans HRz.out.obj
    refine hK.out _ _ ((blk_cell hobj1 3).trans rfl) (fun hHeld => ?_)
    clear hK K
    refine nm ?_
    refine on1 13 144 fun K hK => ?_
    refine Kd.R_append_rows_step (kG S wz) (Rr := fun _ _ => False) (w0 := w0) w0.heap.size rfl (.tmp 140) (.tmp 143) 25 28 (.slice none 0 0) 24 rfl Tryd.underlying25 infoL rfl Nat.zero_lt_one (by omega) v1 (l ++ [s]) [] none 0 0 (fun _ => True) (fun _ => False) rfl rfl hR1 ⟨rfl, by simp, fun h => by simp at h⟩ (fun _ _ h => h.elim) (fun _ h => h.elim) (fun _ _ => trivial) hB1 (hB1.size) (by rw [List.length_append, List.length_singleton]; omega) ?_
    intro v2 w2' hR2 hB2 hG2 hA2
    have hsz1 : wz.heap.size ≤ w1.heap.size := hG1.size
    have hsz2 : w1.heap.size ≤ w2'.heap.size := hG2.size
    have own1 : ∀ q, q < wz.heap.size → some q ≠ (Value.slice A l.length c).ownBlock → some q ≠ v1.ownBlock := fun q hq hne he => by
      rcases hA1 with h1 | ⟨b1, h1, h2⟩
      · exact hne (he.trans h1)
      · rw [h1] at he
        injection he with he
        omega
    have hG12 : ∀ q, q < wz.heap.size → some q ≠ (Value.slice A l.length c).ownBlock → w2'.heap[q]? = wz.heap[q]? := fun q hq hne => (hG2.block q (by omega) (own1 q hq hne)).trans (hG1.block q hq hne)
    have hA12 : v2.ownBlock = (Value.slice A l.length c).ownBlock ∨ ∃ q, v2.ownBlock = some q ∧ wz.heap.size ≤ q := by
      rcases hA2 with h1 | ⟨b1, h1, h2⟩
      · rcases hA1 with h3 | ⟨b3, h3, h4⟩
        · exact .inl (h1.trans h3)
        · exact .inr ⟨b3, h1.trans h3, h4⟩
      · exact .inr ⟨b1, h1, by omega⟩
    rw [List.append_nil] at hR2
    have hobj2 := (hG12 gr hz0 hne3).trans HRz.out.obj
    obtain ⟨hP1, hP2, hP3⟩ := HRz.out.put hR2 hG12 (Nat.le_trans hsz1 hsz2) hB2 hA12 (x : Int)
    obtain ⟨Av, cv, rfl⟩ := Kd.R_slice hR2
    refine hK.out _ _ ((blk_cell hobj2 3).trans rfl) (fun hHeld => ?_)
    clear hK K
    refine nm ?_
    refine pu 14 145 ?_
    refine pu 15 146 ?_
    have hc3 : w2'.cell? ⟨gr, 3, none⟩ = some (.slice A l.length c) := (blk_cell hobj2 3).trans rfl
    have hf3 : w2'.frozen? ⟨gr, 3, none⟩ = false := blk_frozen hobj2 3
    clear hHeld
    refine last_ (i := 16) (N := none) #[true, true, true, true, true, true, true, true, true, true, true, true, true, true, true, true, true] rfl rfl (by kernel_rfl) (by simp) (fun K hK => ?_)
    refine store_step rfl (w1 := w2'.setCell ⟨gr, 3, none⟩ (.slice Av (l ++ [s]).length cv)) (by first | (go_simp; done) | (go_simp; rfl) | (go_simp; exact ⟨rfl, rfl⟩)) ?_
    refine hK.out _ _ ?_
    clear hK K
    refine norm_ (a' := ?_) ?_ ?_
    rotate_left
    · show Act.put _ none _ = _
      first | rfl | (simp only [Act.put]; rfl) | simp only [Act.put]
    refine done_ (by kernel_rfl) ?_
    have hobj3 := blk_set hobj2 3 (.slice Av (l ++ [s]).length cv)
    have hc2 : (w2'.setCell ⟨gr, 3, none⟩ (.slice Av (l ++ [s]).length cv)).cell? ⟨gr, 2, none⟩ = some (.int .u64 (e : Int)) := (blk_cell hobj3 2).trans (by simp)
    have hf2 : (w2'.setCell ⟨gr, 3, none⟩ (.slice Av (l ++ [s]).length cv)).frozen? ⟨gr, 2, none⟩ = false := blk_frozen hobj3 2
    generalize (w2'.setCell ⟨gr, 3, none⟩ (.slice Av (l ++ [s]).length cv)) = w9 at hP1 hP3 hc2 hf2 ⊢
    have HP1 := aq hP1
    have HP3 := aq hP3
    have HP2 := aq hP2
    clear hP1 hP2 hP3 hobj1 hobj2 hobj3 hc3 hf3 hG12 hA12 hG1 hA1 hB1 hR1 hG2 hA2 hB2 hR2 own1 hne3 eqo
    go_wp2
    go_ret
    have hGw : Grows S _ w := ⟨HP2.out.1, fun i hi => (HP2.out.2 i hi).imp id fun h => Nat.le_trans HKz.out.size h⟩
    exact ⟨_, _, _, rfl, HP1.out, hGw, HKz.out.trans hGw HP3.out⟩
end Go.Proofs.YtfhcpniibiobgaaDoor.Qf
namespace Go.Proofs.YtfhcpniibiobgaaDoor.Qf
open Go.RowKit Go.Proofs.YtfhcpniibiobgaaDoorW.PrintWords Go.Proofs.YtfhcpniibiobgaaDoorW.PrintLast Go.Proofs.YtfhcpniibiobgaaDoorW.PrintMore
open Hs (CB CL at_L at_B infoB infoL R_of_blk)
set_option maxHeartbeats 4000000 in
set_option maxRecDepth 100000 in
theorem append_of (a0 a1 a2 a3 a4 a5 : Int) (w0 : World) (gr gf gs : Nat) (S : Nat → Prop) (w : World) (b e : Nat) (vr vs : Value) (l l' : List (List Int)) (n0 m : Nat) (As : Option Addr) (cs : Nat) (s : List Int) (h : RSt a0 a1 a2 a3 a4 a5 w0 gr gf gs S w (b : Int) (e : Int) vr vs l n0) (hs : Safe S w As s) (hsl : s.length ≤ 140737488351232) (hn0 : n0 ≤ 1000) (he : e + 1 < 18446744073709551616)
    (hA : ∀ (S1 : Nat → Prop) (w1 : World) (vs1 : Value), RSt a0 a1 a2 a3 a4 a5 w0 gr gf gs S1 w1 (b : Int) (e : Int) vr vs1 l (n0 + 1) → Safe S1 w1 As s →
      Calls Tryd.prog 98 #[.pointer (some ⟨gr, 0, none⟩), .int .u64 ((e : Int) + 1), .slice As s.length cs, .slice none 0 0, .func (.func 64) #[] #[.pointer (some ⟨gs, 0, none⟩)]] w1 fun en w' => ∃ vr' vs' S', en = .returned .nilIface ∧ RSt a0 a1 a2 a3 a4 a5 w0 gr gf gs S' w' (b : Int) ((e : Int) + 1) vr' vs' l' m ∧ Grows S1 S' w1 ∧ KeptS S' w1 w') :
    Calls Tryd.prog 63 #[.pointer (some ⟨gr, 0, none⟩), .slice As s.length cs, .func (.func 64) #[] #[.pointer (some ⟨gs, 0, none⟩)]] w fun en w' => ∃ vr' vs' S', en = .returned .nilIface ∧ RSt a0 a1 a2 a3 a4 a5 w0 gr gf gs S' w' (b : Int) ((e : Int) + 1) vr' vs' l' m ∧ Grows S S' w ∧ KeptS S' w w' := by
  have HR := aq h
  have HS := aq hs
  have HA := aq hA
  have HK : Aside0 (KeptS S w w) := ⟨KeptS.refl _ _⟩
  clear h hs hA
  have hne := visA_ne gs
  have hw : ∀ z : Int, z = 1 → IntKind.u64.wrap ((e : Int) + z) = (e : Int) + 1 := fun z hz => by
    rw [hz]
    show ((e : Int) + 1) % 18446744073709551616 = _
    omega
  have k2 : w.cell? ⟨gr, 2, none⟩ = some (.int .u64 (e : Int)) := (blk_cell HR.out.obj 2).trans rfl
  go_enter Tryd.func63, Tryd.ntmps63
  go_wp2_with (first
    | (go_at_call 90; (with_reducible refine (compact_NewNodeID.calls _ _ _ _ _ rfl).mono ?_); rintro en w5 ⟨rfl, hb⟩; have HK := aq (HK.out.trans (Grows.refl _ _) (KeptS.below hb)); have HS := aq (HS.out.below hb); have HR := aq (HR.out.step hb); clear hb)
    | (go_at_call 64; (with_reducible refine (HR.out.visit _ _ As cs s HS.out hsl hn0).mono ?_); rintro en w6 ⟨v0, vs6, S6, rfl, hR6, hG6, hK6⟩; have HR6 := aq hR6; have HG6 := aq (show Grows S S6 w from ⟨hG6.1, fun i hi => (hG6.2 i hi).imp id fun h => Nat.le_trans HK.out.size h⟩); have HS6 := aq (HS.out.step hG6 hK6); have HK6 := aq (HK.out.trans HG6.out hK6); have k2 : w6.cell? ⟨gr, 2, none⟩ = some (.int .u64 (e : Int)) := (blk_cell HR6.out.obj 2).trans rfl; clear hR6 hG6 hK6)
    | (go_at_call 98; (with_reducible refine (HA.out S6 w6 vs6 HR6.out HS6.out).mono ?_); rintro en w7 ⟨vr7, vs7, S7, rfl, hR7, hG7, hK7⟩; have HR7 := aq hR7; have HG7 := aq (show Grows S6 S7 w from ⟨hG7.1, fun i hi => (hG7.2 i hi).imp id fun h => Nat.le_trans HK6.out.size h⟩); have HK7 := aq (HK6.out.trans HG7.out hK7); clear hR7 hG7 hK7))
  go_ret
  exact ⟨_, _, _, rfl, HR7.out, HG6.out.trans (Nat.le_refl _) HG7.out, HK7.out⟩
end Go.Proofs.YtfhcpniibiobgaaDoor.Qf
namespace Go.Proofs.YtfhcpniibiobgaaDoor.Qf
open Go.RowKit Go.Proofs.YtfhcpniibiobgaaDoorW.PrintWords Go.Proofs.YtfhcpniibiobgaaDoorW.PrintLast Go.Proofs.YtfhcpniibiobgaaDoorW.PrintMore
open Hs (CB CL at_L at_B infoB infoL R_of_blk)
theorem Rows.cl {S : Nat → Prop} {w : World} {base : Nat} {v : Value} {l : List (List Int)} (h : Rows S w base v l) : ∃ A c, v = .slice A l.length c ∧ l.length ≤ c ∧ CL w A l := by
  obtain ⟨A, c, e, hl, hC⟩ := Kd.R_reads h.row
  exact ⟨A, c, e, hl, ReadsRow.imp_ hC (Below.refl _ _) fun _ _ ⟨A', c', e1, e2, e3⟩ => ⟨A', c', e1, e2, e3.bytes⟩⟩
set_option maxHeartbeats 1000000 in
set_option maxRecDepth 100000 in
theorem rBegin_calls (gr : Nat) (v0 v1 v2 v3 : Value) (w : World) (h : w.heap[gr]? = some (.cells #[v0, v1, v2, v3] 151 (0, 0))) :
    Calls Tryd.prog 99 #[.pointer (some ⟨gr, 0, none⟩)] w fun en w' => en = .returned v1 ∧ Below w.heap.size w w' := by
  have k1 : w.cell? ⟨gr, 1, none⟩ = some v1 := (blk_cell h 1).trans rfl
  clear h
  go_enter Tryd.func99, Tryd.ntmps99
  go_wp2
  go_ret
  exact ⟨rfl, Below.refl _ _⟩
set_option maxHeartbeats 1000000 in
set_option maxRecDepth 100000 in
theorem rEnd_calls (gr : Nat) (v0 v1 v2 v3 : Value) (w : World) (h : w.heap[gr]? = some (.cells #[v0, v1, v2, v3] 151 (0, 0))) :
    Calls Tryd.prog 100 #[.pointer (some ⟨gr, 0, none⟩)] w fun en w' => en = .returned v2 ∧ Below w.heap.size w w' := by
  have k1 : w.cell? ⟨gr, 2, none⟩ = some v2 := (blk_cell h 2).trans rfl
  clear h
  go_enter Tryd.func100, Tryd.ntmps100
  go_wp2
  go_ret
  exact ⟨rfl, Below.refl _ _⟩
set_option maxHeartbeats 1000000 in
set_option maxRecDepth 100000 in
theorem rHashes_calls (gr : Nat) (v0 v1 v2 v3 : Value) (w : World) (h : w.heap[gr]? = some (.cells #[v0, v1, v2, v3] 151 (0, 0))) :
    Calls Tryd.prog 101 #[.pointer (some ⟨gr, 0, none⟩)] w fun en w' => en = .returned v3 ∧ Below w.heap.size w w' := by
  have k1 : w.cell? ⟨gr, 3, none⟩ = some v3 := (blk_cell h 3).trans rfl
  clear h
  go_enter Tryd.func101, Tryd.ntmps101
  go_wp2
  go_ret
  exact ⟨rfl, Below.refl _ _⟩
set_option maxHeartbeats 2000000 in
set_option maxRecDepth 100000 in
theorem fromRange_calls (gr : Nat) (v0 : Value) (b e : Int) (A : Option Addr) (c : Nat) (l : List (List Int)) (k : Nat) (w : World) (h : w.heap[gr]? = some (.cells #[v0, .int .u64 b, .int .u64 e, .slice A l.length c] 151 (0, 0))) (hl : CL w A l) (hc : l.length ≤ c) (htx : impl_texts.f k l = some l) :
    Calls Tryd.prog 65 #[.pointer (some ⟨gr, 0, none⟩)] w fun en w' => ∃ v, en = .returned (.agg #[.int .u64 b, .int .u64 e, v]) ∧ Kd.S (Kd.slice 5 (Kd.int .u8)) 28 w' w.heap.size (fun _ => True) v l ∧ Below w.heap.size w w' := by
  have RB := aq h
  have HL := aq hl
  have HTX := aq htx
  clear h hl htx
  go_enter Tryd.func65, Tryd.ntmps65
  have HB0 := aq (below_alloc (Below.refl w.heap.size w) (.cells #[.int .u64 0, .int .u64 0, .slice none 0 0] 35))
  have SK := aq (heap_alloc_new w (.cells #[.int .u64 0, .int .u64 0, .slice none 0 0] 35))
  go_wp2_with (first
    | (go_at_call 99; (with_reducible refine (rBegin_calls gr v0 _ _ _ _ (blk_below RB.out HB0.out)).mono ?_); rintro en w1 ⟨rfl, hb⟩; have HB1 := aq (below_then HB0.out HB0.out.size hb); have SK1 := aq (blk_below SK.out hb); clear hb)
    | (go_at_call 100; (with_reducible refine (rEnd_calls gr v0 _ _ _ _ (blk_below RB.out HB1.out)).mono ?_); rintro en w2 ⟨rfl, hb⟩; have HB2 := aq (below_then HB1.out HB1.out.size hb); have SK2 := aq (blk_below SK1.out hb); clear hb)
    | (go_at_call 101; (with_reducible refine (rHashes_calls gr v0 _ _ _ _ (blk_below RB.out HB2.out)).mono ?_); rintro en w3 ⟨rfl, hb⟩; have HB3 := aq (below_then HB2.out HB2.out.size hb); have SK3 := aq (blk_below SK2.out hb); clear hb)
    | (go_at_call 48; (with_reducible refine (impl_texts.calls k A c l l _ (Kd.C_below HL.out HB3.out) hc HTX.out).mono ?_); rintro e' w4 ⟨v1, rfl, hS, hb⟩; obtain ⟨B4, d4, rfl, _, _⟩ := Kd.S_reads hS; have HS4 := aq (Kd.S_lower hS HB3.out.size); have HB4 := aq (below_then HB3.out HB3.out.size hb); have SK4 := aq (blk_below SK3.out hb); have c0 : w4.cell? ⟨w.heap.size, 0, none⟩ = some (.int .u64 0) := bc SK4 0; have c1 : w4.cell? ⟨w.heap.size, 1, none⟩ = some (.int .u64 0) := bc SK4 1; have c2 : w4.cell? ⟨w.heap.size, 2, none⟩ = some (.slice none 0 0) := bc SK4 2; clear hS hb; have f0 : w4.frozen? ⟨w.heap.size, 0, none⟩ = false := bz SK4 0; have SK5 := aq (by simpa using blk_set SK4.out 0 (.int .u64 b)); have f1 : (w4.setCell ⟨w.heap.size, 0, none⟩ (.int .u64 b)).frozen? ⟨w.heap.size, 1, none⟩ = false := bz SK5 1; have SK6 := aq (by simpa using blk_set SK5.out 1 (.int .u64 e)); have f2 : ((w4.setCell ⟨w.heap.size, 0, none⟩ (.int .u64 b)).setCell ⟨w.heap.size, 1, none⟩ (.int .u64 e)).frozen? ⟨w.heap.size, 2, none⟩ = false := bz SK6 2))
  have SK7 := aq (by simpa using blk_set SK6.out 2 (.slice B4 l.length d4))
  have g0 : (((w4.setCell ⟨w.heap.size, 0, none⟩ (.int .u64 b)).setCell ⟨w.heap.size, 1, none⟩ (.int .u64 e)).setCell ⟨w.heap.size, 2, none⟩ (.slice B4 l.length d4)).cell? ⟨w.heap.size, 0, none⟩ = some (.int .u64 b) := bc SK7 0
  have g1 : (((w4.setCell ⟨w.heap.size, 0, none⟩ (.int .u64 b)).setCell ⟨w.heap.size, 1, none⟩ (.int .u64 e)).setCell ⟨w.heap.size, 2, none⟩ (.slice B4 l.length d4)).cell? ⟨w.heap.size, 1, none⟩ = some (.int .u64 e) := bc SK7 1
  have g2 : (((w4.setCell ⟨w.heap.size, 0, none⟩ (.int .u64 b)).setCell ⟨w.heap.size, 1, none⟩ (.int .u64 e)).setCell ⟨w.heap.size, 2, none⟩ (.slice B4 l.length d4)).cell? ⟨w.heap.size, 2, none⟩ = some (.slice B4 l.length d4) := bc SK7 2
  refine bodyPost_ret (v := .agg #[.int .u64 b, .int .u64 e, .slice B4 l.length d4]) (by simp [results, Tryd.results65, go_sem, g0, g1, g2]) rfl ⟨_, rfl, ?_, ?_⟩
  · exact Kd.S_set (Kd.S_set (Kd.S_set HS4.out SK4.out (by decide) 0 _) SK5.out (by decide) 1 _) SK6.out (by decide) 2 _
  · exact Below.setCell (Below.setCell (Below.setCell HB4.out (Nat.le_refl _) _) (Nat.le_refl _) _) (Nat.le_refl _) _
end Go.Proofs.YtfhcpniibiobgaaDoor.Qf
namespace Go.Proofs.YtfhcpniibiobgaaDoor.Qf
open Go.RowKit Go.Proofs.YtfhcpniibiobgaaDoorW.PrintWords Go.Proofs.YtfhcpniibiobgaaDoorW.PrintLast Go.Proofs.YtfhcpniibiobgaaDoorW.PrintMore
open Hs (CB CL at_L at_B infoB infoL R_of_blk)
def MStep (a0 a1 a2 a3 a4 a5 : Int) (b e : Nat) (l : List (List Int)) (s : List Int) (l' : List (List Int)) : Prop :=
  ∃ low hgh : Nat, compact_getMergePath.f (b : Int) (e : Int) ((e + 1 : Nat) : Int) = some ((low : Int), (hgh : Int)) ∧
    ((hgh < low ∧ low ≤ 64 ∧ bits_OnesCount64.f (Go.bits .and .u64 ((e : Int) / 2 ^ low) 0) = some 0 ∧ l' = l ++ [s]) ∨
    ∃ (n : Nat) (t : List Int), low + n = hgh ∧ hgh ≤ 64 ∧ n ≤ l.length ∧ bits_OnesCount64.f (Go.bits .and .u64 ((e : Int) / 2 ^ low) (IntKind.u64.wrap (IntKind.u64.wrap ((2 : Int) ^ n) - 1))) = some (n : Int) ∧ (∀ i, i < n → e / 2 ^ low / 2 ^ i % 2 = 1) ∧ mgO a0 a1 a2 a3 a4 a5 l n s = some t ∧ l' = l.take (l.length - n) ++ [t])
theorem ptr_neq (gf : Nat) (W : World) : (binOp .neq 96 (.pointer (some ⟨gf, 0, none⟩)) (.pointer (some ⟨gf, 0, none⟩))).run Tryd.prog W = .ok (.bool false) W := by
  have h : (Tryd.prog.info? 100).isSome = true := by kernel_rfl
  obtain ⟨j, hj⟩ := Option.isSome_iff_exists.1 h
  exact Go.Lib.run_neq_ptr_same W ⟨gf, 0, none⟩ (te := 100) (by kernel_rfl) hj
section
variable {a0 a1 a2 a3 a4 a5 : Int} {w0 : World} {gr gf gs : Nat} {S : Nat → Prop} {w w' : World} {b e : Nat} {vr vs : Value} {l l' : List (List Int)} {n : Nat}
theorem MStep.calls {s : List Int} (hm : MStep a0 a1 a2 a3 a4 a5 b e l s l') (As : Option Addr) (cs : Nat) (h : RSt a0 a1 a2 a3 a4 a5 w0 gr gf gs S w (b : Int) (e : Int) vr vs l n) (hs : Safe S w As s) (hsc : s.length ≤ cs) (hsl : s.length ≤ 140737488351232) (HG_ : Glob w0) (he : e + 1 < 18446744073709551616) (hl : l.length ≤ 500) (hn : n ≤ 600 - l.length + 300) :
    Calls Tryd.prog 63 #[.pointer (some ⟨gr, 0, none⟩), .slice As s.length cs, .func (.func 64) #[] #[.pointer (some ⟨gs, 0, none⟩)]] w fun en w' => ∃ vr' vs' S' n', en = .returned .nilIface ∧ RSt a0 a1 a2 a3 a4 a5 w0 gr gf gs S' w' (b : Int) ((e : Int) + 1) vr' vs' l' n' ∧ Grows S S' w ∧ KeptS S' w w' ∧ n' + l'.length = n + l.length + 2 := by
  obtain ⟨low, hgh, hmp, hc⟩ := hm
  rcases hc with ⟨h1, h2, h3, h4⟩ | ⟨k, t, h1, h2, h3, h4, h5, h6, h7⟩
  · refine (append_of a0 a1 a2 a3 a4 a5 w0 gr gf gs S w b e vr vs l l' n (n + 1) As cs s h hs hsl (by omega) he (fun S1 w1 vs1 hR hS => ?_)).mono fun en w' ⟨vr', vs', S', e1, e2, e3, e4⟩ => ⟨vr', vs', S', n + 1, e1, e2, e3, e4, by rw [h4, List.length_append]; simp; omega⟩
    subst h4
    have := appendImpl_none a0 a1 a2 a3 a4 a5 w0 gr gf gs S1 w1 b e (e + 1) vr vs1 l (n + 1) As cs s low hgh hR hS hsc HG_ hmp h1 h2 (by omega) h3
    rwa [show (((e + 1 : Nat) : Int)) = (e : Int) + 1 by omega] at this
  · refine (append_of a0 a1 a2 a3 a4 a5 w0 gr gf gs S w b e vr vs l l' n (n + 1 + k) As cs s h hs hsl (by omega) he (fun S1 w1 vs1 hR hS => ?_)).mono fun en w' ⟨vr', vs', S', e1, e2, e3, e4⟩ => ⟨vr', vs', S', n + 1 + k, e1, e2, e3, e4, by rw [h7, List.length_append, List.length_take]; simp; omega⟩
    subst h7
    have := appendImpl_one a0 a1 a2 a3 a4 a5 w0 gr gf gs S1 w1 b e (e + 1) vr vs1 l (n + 1) As cs s t low hgh k hR hS hsc HG_ (by omega) hmp (by omega) h1 h2 h3 (by omega) (by omega) h4 h5 h6
    rwa [show (((e + 1 : Nat) : Int)) = (e : Int) + 1 by omega] at this
end
structure LRow (S : Nat → Prop) (w : World) (A : Option Addr) (M : List (List Int)) : Prop where
  get : ∀ j, j < M.length → ∃ ad A0 c0, A = some ad ∧ w.cell? (ad.add j) = some (.slice A0 (M.getD j []).length c0) ∧ (M.getD j []).length ≤ c0 ∧ Safe S w A0 (M.getD j []) ∧ ad.block < w.heap.size ∧ ¬ S ad.block
theorem LRow.step {S S' : Nat → Prop} {w w' : World} {A : Option Addr} {M : List (List Int)} (h : LRow S w A M) (g : Grows S S' w) (k : KeptS S' w w') : LRow S' w' A M where
  get := fun j hj => by
    obtain ⟨ad, A0, c0, e1, e2, e3, e4, e5, e6⟩ := h.get j hj
    have hn : ¬ S' ad.block := fun hs => by
      rcases g.2 _ hs with h1 | h1
      · exact e6 h1
      · omega
    refine ⟨ad, A0, c0, e1, ?_, e3, e4.step g k, Nat.lt_of_lt_of_le e5 k.size, hn⟩
    rw [← e2]
    unfold World.cell?
    rw [show (ad.add j).block = ad.block by unfold Addr.add; split <;> rfl, k.block _ e5 hn]
theorem LRow.new {S : Nat → Prop} {w w' : World} {v : Value} {M : List (List Int)} (hS : ∀ k, S k → k < w.heap.size) (h : Kd.S (Kd.slice 5 (Kd.int .u8)) 28 w' w.heap.size (fun _ => True) v M) : ∃ A c, v = .slice A M.length c ∧ M.length ≤ c ∧ LRow S w' A M := by
  have hR := Kd.S_R h
  obtain ⟨A, c, e, hl, hr⟩ := OwnRow.reads hR.2
  have hC : (kG S w').C w' A M.length M := hr.imp_ (Below.refl _ _) fun x cs hp => by
    obtain ⟨u, ecs, hu⟩ := hp
    obtain ⟨A', c', e', hl', _⟩ := Kd.R_reads hu
    subst e'
    exact ⟨A', c', ecs, hl', Safe.new hS (Kd.R_mono hu (fun _ _ => trivial))⟩
  refine ⟨A, c, e, hl, ⟨fun j hj => ?_⟩⟩
  obtain ⟨ad, cs, ea, _, hK, hc0⟩ := Kd.C_get hC ([] : List Int) (j : Int) (by omega) (by omega)
  simp only [Int.toNat_natCast] at hK hc0
  have hc : ∀ i u, cs[i]? = some u → w'.cell? (ad.add (j * 1 + i)) = some u := hc0
  obtain ⟨A0, c0, rfl, l0, g0⟩ := hK
  subst ea e
  have hb : w.heap.size ≤ ad.block := Kd.R_base hR _ rfl
  exact ⟨ad, A0, c0, rfl, by have hq := hc 0 _ rfl; rwa [Nat.mul_one, Nat.add_zero] at hq, l0, g0, Kd.R_lt hR _ rfl, fun hs => by have := hS _ hs; omega⟩
theorem RSt.init {a0 a1 a2 a3 a4 a5 : Int} {w0 W1 w2 w3 : World} {gr gf : Nat} {b e : Int} {vr : Value} {l : List (List Int)} (hB1 : Below w0.heap.size w0 W1) (hfac : W1.heap[gf]? = some (facObj a0 a1 a2 a3 a4 a5)) (hS : Kd.S (Kd.slice 5 (Kd.int .u8)) 28 w2 W1.heap.size (fun _ => True) vr l) (hb2 : Below W1.heap.size W1 w2) (hg : w2.heap.size ≤ gr) (hgl : gr < w3.heap.size) (hobj : w3.heap[gr]? = some (.cells #[.pointer (some ⟨gf, 0, none⟩), .int .u64 b, .int .u64 e, vr] 151 (0, 0))) (hb3 : Below w2.heap.size w2 w3) :
    RSt a0 a1 a2 a3 a4 a5 w0 gr gf w3.heap.size (fun k => k = gr ∨ k = w3.heap.size ∨ vr.ownBlock = some k) (w3.alloc (.cells #[.slice none 0 0] 37)) b e vr (.slice none 0 0) l 0 := by
  have hfl := lt_of_block hfac
  have s1 := hB1.size
  have s2 := hb2.size
  have s3 := hb3.size
  have hR := Kd.R_bound (Kd.S_R hS)
  have hbn : ∀ k, vr.ownBlock = some k → W1.heap.size ≤ k ∧ k < w2.heap.size := fun k hk => ⟨Kd.R_base hR k hk, Kd.R_lt hR k hk⟩
  have b4 : Below w3.heap.size w3 (w3.alloc (.cells #[.slice none 0 0] 37)) := below_alloc (Below.refl _ _) _
  have s4 : (w3.alloc (.cells #[.slice none 0 0] 37)).heap.size = w3.heap.size + 1 := by simp
  have b24 := below_step hb3 b4
  have b14 := below_step hb2 b24
  have b04 := below_step hB1 b14
  exact {
    below := b04
    base := fun k hk => by
      rcases hk with rfl | rfl | hk
      · omega
      · omega
      · have := (hbn k hk).1
        omega
    top := fun k hk => by
      rw [s4]
      rcases hk with rfl | rfl | hk
      · omega
      · omega
      · have := (hbn k hk).2
        omega
    fac := blk_below hfac b14
    nfac := fun hk => by
      rcases hk with h1 | h1 | hk
      · omega
      · omega
      · have := (hbn gf hk).1
        omega
    obj := blk_below hobj b4
    sobj := .inl rfl
    rows := ⟨by
      obtain ⟨h0, inner, hown, hr⟩ := Kd.R_lower (Kd.R_below hR b24) (by omega : w0.heap.size ≤ W1.heap.size)
      refine ⟨fun _ _ => trivial, inner, hown, hr.imp_ fun x cs hp => ?_⟩
      obtain ⟨u, ecs, hu⟩ := hp
      obtain ⟨A', c', e', hl', hC'⟩ := Kd.R_reads hu
      subst e'
      refine ⟨A', c', ecs, hl', ⟨hC', fun _ ad ea => ?_⟩⟩
      subst ea
      obtain ⟨⟨_, q1, q2, _⟩, q3⟩ := hu.1 ad.block rfl
      refine ⟨by rw [s4]; omega, fun hk => ?_⟩
      rcases hk with h1 | h1 | hk
      · omega
      · omega
      · exact q3 hk.symm, fun k hk => .inr (.inr hk)⟩
    seen := heap_alloc_new _ _
    sseen := .inr (.inl rfl)
    srow := Kd.R_nil _ _ _ _ _
    sown := fun k hk => by simp [Value.ownBlock] at hk }
end Go.Proofs.YtfhcpniibiobgaaDoor.Qf
