/- Several texts, joined. -/
import Derived.Test.YtfhcpniibiobgaaDoorEa
import Derived.Deep.RegionHeld3
namespace Go.Proofs.YtfhcpniibiobgaaDoor.Qf
open Go.RowKit Go.Proofs.YtfhcpniibiobgaaDoorW.PrintWords Go.Proofs.YtfhcpniibiobgaaDoorW.PrintLast Go.Proofs.YtfhcpniibiobgaaDoorW.PrintMore
open Hs (CB CL at_L at_B infoB infoL R_of_blk)

theorem CB_frame {w w' : World} {A : Option Addr} {l : List Int} (h : CB w A l) (hm : 0 < l.length → ∀ ad, A = some ad → w'.heap[ad.block]? = w.heap[ad.block]?) : CB w' A l :=
  ⟨h.1, h.2.1, fun hp => by
    obtain ⟨ad, e, hc⟩ := h.2.2 hp
    refine ⟨ad, e, fun j p hj => ?_⟩
    obtain ⟨c, hl, hk, hcell⟩ := hc j p hj
    refine ⟨c, hl, hk, fun i u hu => ?_⟩
    rw [← hcell i u hu]
    unfold World.cell?
    rw [show (ad.add (j * (Kd.int .u8).sz + i)).block = ad.block by unfold Addr.add; split <;> rfl, hm hp ad e]⟩
theorem hash_blk {W : World} {base : Nat} {ok : Nat → Prop} {A : Option Addr} {n c : Nat} {l : List Int} (h : Kd.R (Kd.int .u8) 5 W base ok (.slice A n c) l) : ∀ ad, A = some ad → base ≤ ad.block ∧ ad.block < W.heap.size := by
  rintro ad rfl
  exact ⟨Kd.R_base h _ rfl, Kd.R_lt h _ rfl⟩
/-- Only the blocks of S change; the others of the elder world are as they were. -/
structure KeptS (S : Nat → Prop) (w w' : World) : Prop where
  size : w.heap.size ≤ w'.heap.size
  block : ∀ k, k < w.heap.size → ¬ S k → w'.heap[k]? = w.heap[k]?
theorem KeptS.refl (S : Nat → Prop) (w : World) : KeptS S w w := ⟨Nat.le_refl _, fun _ _ _ => rfl⟩
theorem KeptS.below {S : Nat → Prop} {w w' : World} (h : Below w.heap.size w w') : KeptS S w w' := ⟨h.size, fun k hk _ => h.block k hk⟩
/-- S' has besides S only blocks that are new at w. -/
def Grows (S S' : Nat → Prop) (w : World) : Prop := (∀ k, S k → S' k) ∧ ∀ k, S' k → S k ∨ w.heap.size ≤ k
theorem Grows.refl (S : Nat → Prop) (w : World) : Grows S S w := ⟨fun _ h => h, fun _ h => .inl h⟩
theorem KeptS.trans {S S' : Nat → Prop} {a b c : World} (h : KeptS S a b) (g : Grows S S' a) (k : KeptS S' b c) : KeptS S' a c :=
  ⟨Nat.le_trans h.size k.size, fun i hi hS => (k.block i (Nat.lt_of_lt_of_le hi h.size) hS).trans (h.block i hi fun hs => hS (g.1 i hs))⟩
theorem Grows.trans {S S' S'' : Nat → Prop} {a b : World} (h : Grows S S' a) (hab : a.heap.size ≤ b.heap.size) (k : Grows S' S'' b) : Grows S S'' a :=
  ⟨fun i hi => k.1 i (h.1 i hi), fun i hi => by
    rcases k.2 i hi with h1 | h1
    · exact h.2 i h1
    · exact .inr (by omega)⟩

/-- Bytes that lie in no block that may change. -/
structure Safe (S : Nat → Prop) (w : World) (A : Option Addr) (s : List Int) : Prop where
  bytes : CB w A s
  away : 0 < s.length → ∀ ad, A = some ad → ad.block < w.heap.size ∧ ¬ S ad.block
theorem Safe.step {S S' : Nat → Prop} {w w' : World} {A : Option Addr} {s : List Int} (h : Safe S w A s) (g : Grows S S' w) (k : KeptS S' w w') : Safe S' w' A s :=
  ⟨CB_frame h.bytes fun hp ad e => k.block _ (h.away hp ad e).1 (fun hs => by
      rcases g.2 _ hs with h1 | h1
      · exact (h.away hp ad e).2 h1
      · have := (h.away hp ad e).1
        omega), fun hp ad e => ⟨Nat.lt_of_lt_of_le (h.away hp ad e).1 k.size, fun hs => by
      rcases g.2 _ hs with h1 | h1
      · exact (h.away hp ad e).2 h1
      · have := (h.away hp ad e).1
        omega⟩⟩
theorem Safe.below {S : Nat → Prop} {w w' : World} {A : Option Addr} {s : List Int} (h : Safe S w A s) (hb : Below w.heap.size w w') : Safe S w' A s := h.step (Grows.refl _ _) (KeptS.below hb)
/-- A fresh hash is safe. -/
theorem Safe.new {S : Nat → Prop} {w w' : World} {A : Option Addr} {c : Nat} {s : List Int} (hS : ∀ k, S k → k < w.heap.size) (hr : Kd.R (Kd.int .u8) 5 w' w.heap.size (fun _ => True) (.slice A s.length c) s) : Safe S w' A s :=
  ⟨(Kd.R_reads' hr).2.2, fun _ ad e => by
    obtain ⟨h1, h2⟩ := hash_blk hr ad e
    exact ⟨h2, fun hs => by have := hS _ hs; omega⟩⟩
/-- What is old and lies below all that may change is safe. -/
theorem Safe.old {S : Nat → Prop} {w0 w : World} {A : Option Addr} {s : List Int} (hb : CB w0 A s) (hw : Below w0.heap.size w0 w) (hS : ∀ k, S k → w0.heap.size ≤ k) : Safe S w A s :=
  ⟨Kd.C_below hb hw, fun hp ad e => by
    obtain ⟨ad', e', hc⟩ := at_B hb 0 hp
    rw [e] at e'
    cases e'
    have h1 := World.block_lt_of_cell? w0 _ hc
    rw [Addr.add_zero'] at h1
    exact ⟨Nat.lt_of_lt_of_le h1 hw.size, fun hs => by have := hS _ hs; omega⟩⟩

/-- Bytes that lie in no block below g. -/
def Far (g : Nat) (A : Option Addr) (s : List Int) : Prop := 0 < s.length → ∀ ad, A = some ad → g ≤ ad.block
/-- Appending to an empty literal: nothing of the old world is touched. -/
theorem app_lit (S : Nat → Prop) (W : World) (hS : ∀ k, S k → k < W.heap.size) (g : Nat) (A : Option Addr) (c : Nat) (ys : List Int) (hy : CB W A ys) (hl : ys.length ≤ 140737488351232) :
    ∃ A' c' w1, (Builtin.append_ #[28, 28] 28 #[.slice (some ⟨g, 0, none⟩) 0 0, .slice A ys.length c]).run Tryd.prog W = .ok (.slice A' ys.length c') w1 ∧ ys.length ≤ c' ∧ (Safe S w1 A' ys ∧ Far W.heap.size A' ys) ∧ Below W.heap.size W w1 := by
  obtain ⟨i0, hi, hz⟩ := Option.map_eq_some_iff.1 infoB
  simp only [Prod.mk.injEq] at hz
  obtain ⟨hz0, hz1, hz2⟩ := hz
  by_cases h0 : ys = []
  · subst h0
    refine ⟨some ⟨g, 0, none⟩, 0, W, ?_, Nat.le_refl _, ⟨⟨⟨rfl, by simp, fun h => by simp at h⟩, fun h => by simp at h⟩, fun h => by simp at h⟩, Below.refl _ _⟩
    rcases A with _ | ad
    · simp [Builtin.append_, run_underlying Tryd.underlying28, sizeOf, typeInfo, hi, Builtin.lenOf, Builtin.firstCells, storeCells]
    · have hr := run_append_room_cells (P := Tryd.prog) W 28 28 5 i0 Tryd.underlying28 hi g 0 0 0 ad 0 c [] (by simp) (by simp) (by simp) (Nat.le_refl _) (by simp) (by simp)
      exact hr
  · have hpos : 0 < ys.length := List.length_pos_iff.2 h0
    obtain ⟨ad, rfl, _⟩ := at_B hy 0 hpos
    have hnews : ∀ j u, (ys.map (Value.int .u8))[j]? = some u → W.cell? (ad.add j) = some u := by
      intro j u hj
      rw [List.getElem?_map] at hj
      obtain ⟨x, hx, rfl⟩ := Option.map_eq_some_iff.1 hj
      obtain ⟨hjl, hxe⟩ := List.getElem?_eq_some_iff.1 hx
      obtain ⟨ad', e, hc⟩ := at_B hy j hjl
      cases e
      rw [List.getD_eq_getElem?_getD, List.getElem?_eq_getElem hjl, Option.getD_some, hxe] at hc
      exact hc
    obtain ⟨v', w', hrun, hown, hg⟩ := run_append_arg_grows (P := Tryd.prog) W 28 28 5 i0 (.int .u8 0) 1 1 Tryd.underlying28 hi hz0 hz1 hz2 rfl (by omega) ⟨g, 0, none⟩ 0 0 [] rfl (fun j u h => by simp at h) ad ys.length c (ys.map (Value.int .u8)) (by simp) hnews (by omega) (by unfold maxLen; omega) (by omega)
    rw [List.nil_append, Nat.zero_add] at hown
    have hR : Kd.R (Kd.int .u8) 5 w' W.heap.size (fun _ => True) v' ys := ⟨fun _ _ => trivial, _, hown, by show _ = _ * 1; simp, fun j p hj => by
      show ((ys.map (Value.int .u8)).drop (j * 1)).take 1 = [Value.int .u8 p]
      obtain ⟨hjl, hp⟩ := List.getElem?_eq_some_iff.1 hj
      rw [Nat.mul_one, List.drop_eq_getElem_cons (by rw [List.length_map]; exact hjl), List.take_succ_cons, List.take_zero, List.getElem_map, hp]⟩
    obtain ⟨A', c', rfl, hlc, hC⟩ := Kd.R_reads hR
    have hSf : Safe S w' A' ys ∧ Far W.heap.size A' ys := ⟨Safe.new hS hR, fun _ ad e => (hash_blk hR ad e).1⟩
    exact ⟨A', c', w', hrun, hlc, hSf, pw_below_grown (Below.refl _ _) none (Nat.le_refl _) hg (fun k h => by simp at h)⟩
/-- A literal without elements: what follows may hang on its block and on nothing else of it. -/
theorem new_lit {Kc : Act → World → Prop} {a : Act} {N : Option Tmp} (W : World) (T : TypeId) (h : ∀ g W', Below W.heap.size W W' → Kc (a.put N (.slice (some ⟨g, 0, none⟩) 0 0)) W') : Kc (a.put N (.slice (some ⟨W.heap.size, 0, none⟩) 0 0)) (W.alloc (.cells #[] T)) :=
  h _ _ (below_alloc (Below.refl _ _) _)
theorem app_step {ops : Array Oper} {o : Oper} {a : Act} {Kc : Act → World → Prop} {Q : Exit → Act → World → Prop} {W : World} {A : Option Addr} {c : Nat} {ys : List Int} (S : Nat → Prop) (hS : ∀ k, S k → k < W.heap.size) (g : Nat) (s x : Operand) (hgd : o.guard = none)
    (ho : o.op = .call { callee := .builtin .append, args := #[s, x], argTypes := #[28, 28] }) (hty : o.type = 28) (hs : a.eval s = .slice (some ⟨g, 0, none⟩) 0 0) (hx : a.eval x = .slice A ys.length c) (hy : CB W A ys) (hl : ys.length ≤ 140737488351232)
    (h : ∀ A' c' w1, ys.length ≤ c' → (Safe S w1 A' ys ∧ Far W.heap.size A' ys) → Below W.heap.size W w1 → Kc (a.put o.dst (.slice A' ys.length c')) w1) : if Region.wanted o (yielded ops a.tmps) = true then Oper.wp Tryd.prog o a W Kc Q else Kc (a.put o.dst undef) W := by
  obtain ⟨A', c', w1, hrun, h1, h2, h3⟩ := app_lit S W hS g A c ys hy hl
  refine event_step (by simp [Region.wanted, hgd]) (v := .slice A' ys.length c') (w1 := w1) ?_ (h A' c' w1 h1 h2 h3)
  unfold execOp
  simp only [ho, hty, resolve, invoke, builtin, Sem.run_bind, Sem.run_pure, Result.andThen_ok, List.map_toArray, List.map_cons, List.map_nil, hs, hx, hrun]

/-- What is shown at a visit: level, index, hash. -/
abbrev Vis := Int × Int × List Int
/-- A row of visits, their hashes safe. -/
def kW (g : Nat) (S : Nat → Prop) (w0 : World) : Kd Vis where
  sz := 3
  E := []
  K := fun _ x cs => ∃ A c, cs = [.int .u64 x.1, .int .u64 x.2.1, .slice A x.2.2.length c] ∧ x.2.2.length ≤ c ∧ Safe S w0 A x.2.2 ∧ Far g A x.2.2
  M := fun _ _ _ x cs => ∃ A c, cs = [.int .u64 x.1, .int .u64 x.2.1, .slice A x.2.2.length c] ∧ x.2.2.length ≤ c ∧ Safe S w0 A x.2.2 ∧ Far g A x.2.2
  K_len := by
    rintro w x cs ⟨A, c, rfl, _⟩
    rfl
  K_one := by
    rintro w x cs ⟨A, c, rfl, _⟩ u hu
    simp only [List.mem_cons, List.not_mem_nil, or_false] at hu
    rcases hu with rfl | rfl | rfl <;> rfl
  K_below := fun _ h => h
  K_of_M := fun h => h
  M_mono := fun _ h => h
  M_bound := fun h => h
  M_move := fun _ h => h
  M_lower := fun _ h => h
section
variable {g : Nat} {S S' : Nat → Prop} {w0 wz : World}
theorem kV_move {e base : Nat} {ok : Nat → Prop} {w w1 : World} {v : Value} {xs : List Vis} (h : (kW g S w0).R e w base ok v xs) (hm : ∀ k, v.ownBlock = some k → w1.heap[k]? = w.heap[k]?) : (kW g S w0).R e w1 base ok v xs := by
  obtain ⟨h0, inner, hown, hr⟩ := h
  exact ⟨h0, inner, own_move hown hm, hr⟩
theorem kV_lt {e base : Nat} {ok : Nat → Prop} {w : World} {v : Value} {xs : List Vis} (h : (kW g S w0).R e w base ok v xs) : ∀ k, v.ownBlock = some k → base ≤ k ∧ k < w.heap.size := fun k hk => ⟨Kd.R_base h k hk, Kd.R_lt h k hk⟩
theorem kV_below {e base : Nat} {ok : Nat → Prop} {w w1 : World} {v : Value} {xs : List Vis} (h : (kW g S w0).R e w base ok v xs) (hb : Below w.heap.size w w1) : (kW g S w0).R e w1 base ok v xs :=
  kV_move h fun k hk => hb.block k (kV_lt h k hk).2
theorem kV_slice {e base : Nat} {ok : Nat → Prop} {w : World} {v : Value} {xs : List Vis} (h : (kW g S w0).R e w base ok v xs) : ∃ A n c, v = .slice A n c := by
  obtain ⟨A, c, e⟩ := Kd.R_slice h
  exact ⟨_, _, _, e⟩
/-- The hashes are safe in a later world, too. -/
theorem kW_turn {e base : Nat} {ok : Nat → Prop} {w : World} {v : Value} {xs : List Vis} (h : (kW g S w0).R e w base ok v xs) (gr : Grows S S' w0) (k : KeptS S' w0 wz) : (kW g S' wz).R e w base ok v xs := by
  obtain ⟨h0, inner, hown, hr⟩ := h
  exact ⟨h0, inner, hown, hr.imp_ fun _ _ ⟨A, c, e1, e2, e3, e4⟩ => ⟨A, c, e1, e2, e3.step gr k, e4⟩⟩
end
section
variable {P : Program} {ops : Array Oper} {o : Oper} {a : Act} {Q : Exit → Act → World → Prop} {Kc : Act → World → Prop}
theorem store_step {W w1 : World} (hw : Region.wanted o (yielded ops a.tmps) = true) (hrun : (execOp a.eval o).run P W = .ok .skip w1) (h : Kc (a.put o.dst undef) w1) : if Region.wanted o (yielded ops a.tmps) = true then Oper.wp P o a W Kc Q else Kc (a.put o.dst undef) W := by
  rw [if_pos hw]
  unfold Oper.wp
  rw [hrun]
  exact h
end
theorem infoV : (Tryd.prog.info? 58).map (fun i => (i.zero, i.size, i.bytes)) = some (some (.agg #[.int .u64 0, .int .u64 0, .slice none 0 0]), 3, 40) := by kernel_rfl

set_option maxHeartbeats 4000000 in
set_option maxRecDepth 100000 in
theorem visit_calls (lv ix : Int) (A : Option Addr) (c : Nat) (l : List Int) (gs : Nat) (V : List Vis) (S : Nat → Prop) (v : Value) (w : World) (hS : ∀ k, S k → k < w.heap.size) (hl : CB w A l) (hll : l.length ≤ 140737488351232) (hg : w.heap[gs]? = some (.cells #[v] 37 (0, 0))) (hgs : gs < w.heap.size) (hr : (kW gs S w).R 58 w (gs + 1) (fun _ => True) v V) (hn : V.length ≤ 1000) :
    Calls Tryd.prog 64 #[.agg #[.int .u64 lv, .int .u64 ix], .slice A l.length c, .pointer (some ⟨gs, 0, none⟩)] w fun e w' => ∃ v0 v' W2, e = .returned v0 ∧ w'.heap[gs]? = some (.cells #[v'] 37 (0, 0)) ∧ (kW gs S W2).R 58 w' (gs + 1) (fun _ => True) v' (V ++ [(lv, ix, l)]) ∧ Below w.heap.size w W2 ∧ W2.heap.size ≤ w'.heap.size ∧ (∀ k, k < W2.heap.size → k ≠ gs → some k ≠ v.ownBlock → w'.heap[k]? = W2.heap[k]?) ∧ (v'.ownBlock = v.ownBlock ∨ ∃ b, v'.ownBlock = some b ∧ W2.heap.size ≤ b) ∧ Below gs w w' := by
  have HL := Aside0.mk hl
  have HV0 := Aside0.mk hr
  have SK0 := Aside0.mk hg
  clear hl hr hg
  go_enter Tryd.func64, Tryd.ntmps64
  try go_wp2_with (fail)
  have BK : Aside0 (((w.alloc (.cells #[.int .u64 lv, .int .u64 ix] 108)).drew).heap[w.heap.size]? = some (.cells #[.int .u64 lv, .int .u64 ix] 108 (0, 0))) := ⟨blk_drew (heap_alloc_new w _)⟩
  have HB := Aside0.mk (below_drew1 (below_alloc (Below.refl w.heap.size w) (.cells #[.int .u64 lv, .int .u64 ix] 108)))
  have SK := Aside0.mk (blk_below SK0.out HB.out)
  have HV := Aside0.mk (kV_below HV0.out HB.out)
  refine start_ (n := 10) (S := fun w' => w'.cell? ⟨gs, 0, none⟩ = some v ∧ w'.cell? ⟨w.heap.size, 0, none⟩ = some (.int .u64 lv) ∧ w'.cell? ⟨w.heap.size, 1, none⟩ = some (.int .u64 ix)) (ds := [9]) #[false, false, false, false, false, false, false, false, false, false] (by kernel_rfl) rfl rfl ⟨(blk_cell SK.out 0).trans rfl, (blk_cell BK.out 0).trans rfl, (blk_cell BK.out 1).trans rfl⟩ (fun hHeld => ?_)
  generalize (w.alloc (.cells #[.int .u64 lv, .int .u64 ix] 108)).drew = wz at BK SK HB HV hHeld ⊢
  refine pure_ (i := 4) (N := some 9) (v := ?_) (a' := ?_) #[false, false, false, false, true, false, false, false, false, false] rfl rfl (by kernel_rfl) (fun _ _ _ h => h) (Or.inl ⟨by rfl, ?_⟩) ?_ ?_
  rotate_left
  · intro w'
    go_simp
    with_reducible rfl
  rotate_left
  · simp only [Act.put, List.setIfInBounds_toArray, List.set_cons_zero, List.set_cons_succ]
    rfl
  refine take_ (i := 0) (N := some 5) (v := ?_) (a' := ?_) #[true, false, false, false, true, false, false, false, false, false] rfl rfl (by kernel_rfl) (fun _ _ _ h => h) (Or.inl ⟨by rfl, ?_⟩) hHeld ?_ ?_
  rotate_left
  · rintro w' ⟨s0, s1, s2⟩
    go_simp
    with_reducible rfl
  rotate_left
  · simp only [Act.put, List.setIfInBounds_toArray, List.set_cons_zero, List.set_cons_succ]
    rfl
  refine take_ (i := 1) (N := some 6) (v := ?_) (a' := ?_) #[true, true, false, false, true, false, false, false, false, false] rfl rfl (by kernel_rfl) (fun _ _ _ h => h) (Or.inl ⟨by rfl, ?_⟩) hHeld ?_ ?_
  rotate_left
  · rintro w' ⟨s0, s1, s2⟩
    go_simp
    with_reducible rfl
  rotate_left
  · simp only [Act.put, List.setIfInBounds_toArray, List.set_cons_zero, List.set_cons_succ]
    rfl
  refine two_ (i := 2) (j := 3) (Ni := some 7) (Nj := some 8) #[true, true, true, false, true, false, false, false, false, false] #[true, true, false, true, true, false, false, false, false, false] rfl rfl rfl rfl (by kernel_rfl) (by decide) (by decide) (fun K hK => ?_) (fun K hK => ?_)
  · skip
    refine goes_ Tryd.func57 (by kernel_rfl) rfl #[.agg #[.int .u64 lv, .int .u64 ix]] (by rfl) rfl rfl (by (try simp only [List.map_toArray, List.map_cons, List.map_nil]); first | done | rfl) ?_
    refine (impl_fromNode.calls lv ix lv ix _ rfl).mono ?_
    rintro e W' ⟨rfl, hb⟩
    refine ⟨_, rfl, ?_⟩
    have nBK := Aside0.mk (blk_below BK.out hb)
    have nSK := Aside0.mk (blk_below SK.out hb)
    have nHB := Aside0.mk (below_step HB.out hb)
    have nHV := Aside0.mk (kV_below HV.out hb)
    clear BK SK HB HV  hb
    have BK := nBK
    have SK := nSK
    have HB := nHB
    have HV := nHV
    clear nBK nSK nHB nHV 
    refine hK.out _ _ ⟨(blk_cell SK.out 0).trans rfl, (blk_cell BK.out 0).trans rfl, (blk_cell BK.out 1).trans rfl⟩ (fun hHeld => ?_)
    clear hK K
    refine norm_ (a' := ?_) ?_ ?_
    rotate_left
    · show Act.put _ (some 7) _ = _
      simp only [Act.put, List.setIfInBounds_toArray, List.set_cons_zero, List.set_cons_succ]
      rfl
    refine one_ (i := 3) (N := some 8) #[true, true, true, true, true, false, false, false, false, false] rfl rfl (by kernel_rfl) (by decide) (fun K hK => ?_)
    refine event_step rfl (by first | (go_simp; done) | (go_simp; rfl) | (go_simp; exact ⟨rfl, rfl⟩)) ?_
    refine new_lit _ _ ?_
    intro g3 W' hb
    have nBK := Aside0.mk (blk_below BK.out hb)
    have nSK := Aside0.mk (blk_below SK.out hb)
    have nHB := Aside0.mk (below_step HB.out hb)
    have nHV := Aside0.mk (kV_below HV.out hb)
    clear BK SK HB HV  hb
    have BK := nBK
    have SK := nSK
    have HB := nHB
    have HV := nHV
    clear nBK nSK nHB nHV 
    refine hK.out _ _ ⟨(blk_cell SK.out 0).trans rfl, (blk_cell BK.out 0).trans rfl, (blk_cell BK.out 1).trans rfl⟩ (fun hHeld => ?_)
    clear hK K
    refine norm_ (a' := ?_) ?_ ?_
    rotate_left
    · show Act.put _ (some 8) _ = _
      simp only [Act.put, List.setIfInBounds_toArray, List.set_cons_zero, List.set_cons_succ]
      rfl
    refine one_ (i := 5) (N := some 10) #[true, true, true, true, true, true, false, false, false, false] rfl rfl (by kernel_rfl) (by decide) (fun K hK => ?_)
    refine app_step S (fun k hk => Nat.lt_of_lt_of_le (hS k hk) HB.out.size) g3 (.tmp 8) (.tmp 9) rfl rfl rfl rfl rfl (Kd.C_below HL.out HB.out) hll ?_
    intro B d W' hd hC hb
    have HSF := Aside0.mk (show Safe S W' B l ∧ Far gs B l from ⟨hC.1, fun h1 ad e => by have := hC.2 h1 ad e; have := HB.out.size; omega⟩)
    have HDL := Aside0.mk hd
    have nBK := Aside0.mk (blk_below BK.out hb)
    have nSK := Aside0.mk (blk_below SK.out hb)
    have nHB := Aside0.mk (below_step HB.out hb)
    have nHV := Aside0.mk (kV_below HV.out hb)
    clear BK SK HB HV  hb
    have BK := nBK
    have SK := nSK
    have HB := nHB
    have HV := nHV
    clear nBK nSK nHB nHV 
    clear hC
    refine hK.out _ _ ⟨(blk_cell SK.out 0).trans rfl, (blk_cell BK.out 0).trans rfl, (blk_cell BK.out 1).trans rfl⟩ (fun hHeld => ?_)
    clear hK K
    refine norm_ (a' := ?_) ?_ ?_
    rotate_left
    · show Act.put _ (some 10) _ = _
      simp only [Act.put, List.setIfInBounds_toArray, List.set_cons_zero, List.set_cons_succ]
      rfl
    refine pure_ (i := 6) (N := some 11) (v := ?_) (a' := ?_) #[true, true, true, true, true, true, true, false, false, false] rfl rfl (by kernel_rfl) (fun _ _ _ h => h) (Or.inl ⟨by rfl, ?_⟩) ?_ ?_
    rotate_left
    · intro w'
      go_simp
      with_reducible rfl
    rotate_left
    · simp only [Act.put, List.setIfInBounds_toArray, List.set_cons_zero, List.set_cons_succ]
      rfl
    refine one_ (i := 7) (N := some 12) #[true, true, true, true, true, true, true, true, false, false] rfl rfl (by kernel_rfl) (by decide) (fun K hK => ?_)
    refine event_step rfl (v := .slice (some ⟨_, 0, none⟩) 1 1) (w1 := World.alloc _ (.cells #[.int .u64 lv, .int .u64 ix, .slice B l.length d] 58)) (by first | (go_simp; done) | (go_simp; rfl) | (go_simp; exact ⟨rfl, rfl⟩)) ?_
    rename World => W2
    have hb := below_alloc (Below.refl W2.heap.size W2) (.cells #[.int .u64 lv, .int .u64 ix, .slice B l.length d] 58)
    refine hK.out _ _ ⟨(blk_cell (blk_below SK.out hb) 0).trans rfl, (blk_cell (blk_below BK.out hb) 0).trans rfl, (blk_cell (blk_below BK.out hb) 1).trans rfl⟩ (fun hHeld => ?_)
    clear hK K
    refine norm_ (a' := ?_) ?_ ?_
    rotate_left
    · show Act.put _ (some 12) _ = _
      simp only [Act.put, List.setIfInBounds_toArray, List.set_cons_zero, List.set_cons_succ]
      rfl
    refine one_ (i := 8) (N := some 13) #[true, true, true, true, true, true, true, true, true, false] rfl rfl (by kernel_rfl) (by decide) (fun K hK => ?_)
    have HVt := kW_turn HV.out (Grows.refl _ _) (KeptS.below HB.out)
    refine Kd.R_append_step (kW gs S W2) (w0 := w) (gs + 1) rfl (.tmp 5) (.tmp 12) 37 58 (.agg #[.int .u64 0, .int .u64 0, .slice none 0 0]) 40 rfl Tryd.underlying37 infoV rfl (Nat.succ_pos 2) (by omega) v V (lv, ix, l) [.int .u64 lv, .int .u64 ix, .slice B l.length d] (fun _ => True) (fun _ => False) rfl rfl ⟨B, d, rfl, HDL.out, HSF.out.1, HSF.out.2⟩ (fun _ h => h.elim) (fun _ _ => trivial) HVt (Below.mono HB.out (by omega)) (Nat.le_trans (by omega) (below_size HB.out)) (by omega) ?_
    intro v1 w1 hR1 hB1 hG1 hA1
    have hlt := below_size HB.out
    have SK1 := Aside0.mk ((hG1.block gs (by omega) (fun h => by have := (kV_lt HV0.out gs h.symm).1; omega)).trans SK.out)
    have BK1 := Aside0.mk ((hG1.block w.heap.size (lt_of_block BK.out) (fun h => by have := (kV_lt HV0.out w.heap.size h.symm).2; omega)).trans BK.out)
    have K1 : Aside0 (∀ k, k < W2.heap.size → k ≠ gs → some k ≠ v.ownBlock → w1.heap[k]? = W2.heap[k]?) := ⟨fun k hk _ hv => hG1.block k hk hv⟩
    have Z1 := Aside0.mk hG1.size
    have HBk := Aside0.mk HB.out
    have A1 := Aside0.mk hA1
    have B1 := Aside0.mk (Below.mono hB1 (Nat.le_succ gs))
    have R1 := Aside0.mk hR1
    clear hG1 hA1 hB1 hR1 SK BK HB HV HVt HSF HDL hHeld
    refine hK.out _ _ ⟨(blk_cell SK1.out 0).trans rfl, (blk_cell BK1.out 0).trans rfl, (blk_cell BK1.out 1).trans rfl⟩ (fun hHeld => ?_)
    clear hK K
    refine norm_ (a' := ?_) ?_ ?_
    rotate_left
    · show Act.put _ (some 13) _ = _
      simp only [Act.put, List.setIfInBounds_toArray, List.set_cons_zero, List.set_cons_succ]
      rfl
    obtain ⟨Av, nv, cv, rfl⟩ := kV_slice R1.out
    have hc := cell_of_one SK1.out
    have hf := free_of_one SK1.out
    refine last_ (i := 9) (N := none) #[true, true, true, true, true, true, true, true, true, true] rfl rfl (by kernel_rfl) (by simp) (fun K hK => ?_)
    refine store_step rfl (w1 := w1.setCell ⟨gs, 0, none⟩ (.slice Av nv cv)) (by first | (go_simp; done) | (go_simp; rfl) | (go_simp; exact ⟨rfl, rfl⟩)) ?_
    refine hK.out _ _ ?_
    clear hK K
    refine norm_ (a' := ?_) ?_ ?_
    rotate_left
    · show Act.put _ none _ = _
      first | rfl | (simp only [Act.put]; rfl) | simp only [Act.put]
    refine done_ (by kernel_rfl) ?_
    go_end0
    exact ⟨_, _, W2, rfl, one_setCell SK1.out, kV_move R1.out (fun k hk => Below.heap_setCell _ _ _ k (by have := (kV_lt R1.out k hk).1; simp; omega)), HBk.out, by have := Z1.out; simp [World.setCell]; exact this, fun k h1 h2 h3 => (Below.heap_setCell _ _ _ k h2).trans (K1.out k h1 h2 h3), A1.out, Below.setCell B1.out (by simp) _⟩
  · skip
    refine event_step rfl (by first | (go_simp; done) | (go_simp; rfl) | (go_simp; exact ⟨rfl, rfl⟩)) ?_
    refine new_lit _ _ ?_
    intro g3 W' hb
    have nBK := Aside0.mk (blk_below BK.out hb)
    have nSK := Aside0.mk (blk_below SK.out hb)
    have nHB := Aside0.mk (below_step HB.out hb)
    have nHV := Aside0.mk (kV_below HV.out hb)
    clear BK SK HB HV  hb
    have BK := nBK
    have SK := nSK
    have HB := nHB
    have HV := nHV
    clear nBK nSK nHB nHV 
    refine hK.out _ _ ⟨(blk_cell SK.out 0).trans rfl, (blk_cell BK.out 0).trans rfl, (blk_cell BK.out 1).trans rfl⟩ (fun hHeld => ?_)
    clear hK K
    refine norm_ (a' := ?_) ?_ ?_
    rotate_left
    · show Act.put _ (some 8) _ = _
      simp only [Act.put, List.setIfInBounds_toArray, List.set_cons_zero, List.set_cons_succ]
      rfl
    refine one_ (i := 2) (N := some 7) #[true, true, true, true, true, false, false, false, false, false] rfl rfl (by kernel_rfl) (by decide) (fun K hK => ?_)
    refine goes_ Tryd.func57 (by kernel_rfl) rfl #[.agg #[.int .u64 lv, .int .u64 ix]] (by rfl) rfl rfl (by (try simp only [List.map_toArray, List.map_cons, List.map_nil]); first | done | rfl) ?_
    refine (impl_fromNode.calls lv ix lv ix _ rfl).mono ?_
    rintro e W' ⟨rfl, hb⟩
    refine ⟨_, rfl, ?_⟩
    have nBK := Aside0.mk (blk_below BK.out hb)
    have nSK := Aside0.mk (blk_below SK.out hb)
    have nHB := Aside0.mk (below_step HB.out hb)
    have nHV := Aside0.mk (kV_below HV.out hb)
    clear BK SK HB HV  hb
    have BK := nBK
    have SK := nSK
    have HB := nHB
    have HV := nHV
    clear nBK nSK nHB nHV 
    refine hK.out _ _ ⟨(blk_cell SK.out 0).trans rfl, (blk_cell BK.out 0).trans rfl, (blk_cell BK.out 1).trans rfl⟩ (fun hHeld => ?_)
    clear hK K
    refine norm_ (a' := ?_) ?_ ?_
    rotate_left
    · show Act.put _ (some 7) _ = _
      simp only [Act.put, List.setIfInBounds_toArray, List.set_cons_zero, List.set_cons_succ]
      rfl
    refine one_ (i := 5) (N := some 10) #[true, true, true, true, true, true, false, false, false, false] rfl rfl (by kernel_rfl) (by decide) (fun K hK => ?_)
    refine app_step S (fun k hk => Nat.lt_of_lt_of_le (hS k hk) HB.out.size) g3 (.tmp 8) (.tmp 9) rfl rfl rfl rfl rfl (Kd.C_below HL.out HB.out) hll ?_
    intro B d W' hd hC hb
    have HSF := Aside0.mk (show Safe S W' B l ∧ Far gs B l from ⟨hC.1, fun h1 ad e => by have := hC.2 h1 ad e; have := HB.out.size; omega⟩)
    have HDL := Aside0.mk hd
    have nBK := Aside0.mk (blk_below BK.out hb)
    have nSK := Aside0.mk (blk_below SK.out hb)
    have nHB := Aside0.mk (below_step HB.out hb)
    have nHV := Aside0.mk (kV_below HV.out hb)
    clear BK SK HB HV  hb
    have BK := nBK
    have SK := nSK
    have HB := nHB
    have HV := nHV
    clear nBK nSK nHB nHV 
    clear hC
    refine hK.out _ _ ⟨(blk_cell SK.out 0).trans rfl, (blk_cell BK.out 0).trans rfl, (blk_cell BK.out 1).trans rfl⟩ (fun hHeld => ?_)
    clear hK K
    refine norm_ (a' := ?_) ?_ ?_
    rotate_left
    · show Act.put _ (some 10) _ = _
      simp only [Act.put, List.setIfInBounds_toArray, List.set_cons_zero, List.set_cons_succ]
      rfl
    refine pure_ (i := 6) (N := some 11) (v := ?_) (a' := ?_) #[true, true, true, true, true, true, true, false, false, false] rfl rfl (by kernel_rfl) (fun _ _ _ h => h) (Or.inl ⟨by rfl, ?_⟩) ?_ ?_
    rotate_left
    · intro w'
      go_simp
      with_reducible rfl
    rotate_left
    · simp only [Act.put, List.setIfInBounds_toArray, List.set_cons_zero, List.set_cons_succ]
      rfl
    refine one_ (i := 7) (N := some 12) #[true, true, true, true, true, true, true, true, false, false] rfl rfl (by kernel_rfl) (by decide) (fun K hK => ?_)
    refine event_step rfl (v := .slice (some ⟨_, 0, none⟩) 1 1) (w1 := World.alloc _ (.cells #[.int .u64 lv, .int .u64 ix, .slice B l.length d] 58)) (by first | (go_simp; done) | (go_simp; rfl) | (go_simp; exact ⟨rfl, rfl⟩)) ?_
    rename World => W2
    have hb := below_alloc (Below.refl W2.heap.size W2) (.cells #[.int .u64 lv, .int .u64 ix, .slice B l.length d] 58)
    refine hK.out _ _ ⟨(blk_cell (blk_below SK.out hb) 0).trans rfl, (blk_cell (blk_below BK.out hb) 0).trans rfl, (blk_cell (blk_below BK.out hb) 1).trans rfl⟩ (fun hHeld => ?_)
    clear hK K
    refine norm_ (a' := ?_) ?_ ?_
    rotate_left
    · show Act.put _ (some 12) _ = _
      simp only [Act.put, List.setIfInBounds_toArray, List.set_cons_zero, List.set_cons_succ]
      rfl
    refine one_ (i := 8) (N := some 13) #[true, true, true, true, true, true, true, true, true, false] rfl rfl (by kernel_rfl) (by decide) (fun K hK => ?_)
    have HVt := kW_turn HV.out (Grows.refl _ _) (KeptS.below HB.out)
    refine Kd.R_append_step (kW gs S W2) (w0 := w) (gs + 1) rfl (.tmp 5) (.tmp 12) 37 58 (.agg #[.int .u64 0, .int .u64 0, .slice none 0 0]) 40 rfl Tryd.underlying37 infoV rfl (Nat.succ_pos 2) (by omega) v V (lv, ix, l) [.int .u64 lv, .int .u64 ix, .slice B l.length d] (fun _ => True) (fun _ => False) rfl rfl ⟨B, d, rfl, HDL.out, HSF.out.1, HSF.out.2⟩ (fun _ h => h.elim) (fun _ _ => trivial) HVt (Below.mono HB.out (by omega)) (Nat.le_trans (by omega) (below_size HB.out)) (by omega) ?_
    intro v1 w1 hR1 hB1 hG1 hA1
    have hlt := below_size HB.out
    have SK1 := Aside0.mk ((hG1.block gs (by omega) (fun h => by have := (kV_lt HV0.out gs h.symm).1; omega)).trans SK.out)
    have BK1 := Aside0.mk ((hG1.block w.heap.size (lt_of_block BK.out) (fun h => by have := (kV_lt HV0.out w.heap.size h.symm).2; omega)).trans BK.out)
    have K1 : Aside0 (∀ k, k < W2.heap.size → k ≠ gs → some k ≠ v.ownBlock → w1.heap[k]? = W2.heap[k]?) := ⟨fun k hk _ hv => hG1.block k hk hv⟩
    have Z1 := Aside0.mk hG1.size
    have HBk := Aside0.mk HB.out
    have A1 := Aside0.mk hA1
    have B1 := Aside0.mk (Below.mono hB1 (Nat.le_succ gs))
    have R1 := Aside0.mk hR1
    clear hG1 hA1 hB1 hR1 SK BK HB HV HVt HSF HDL hHeld
    refine hK.out _ _ ⟨(blk_cell SK1.out 0).trans rfl, (blk_cell BK1.out 0).trans rfl, (blk_cell BK1.out 1).trans rfl⟩ (fun hHeld => ?_)
    clear hK K
    refine norm_ (a' := ?_) ?_ ?_
    rotate_left
    · show Act.put _ (some 13) _ = _
      simp only [Act.put, List.setIfInBounds_toArray, List.set_cons_zero, List.set_cons_succ]
      rfl
    obtain ⟨Av, nv, cv, rfl⟩ := kV_slice R1.out
    have hc := cell_of_one SK1.out
    have hf := free_of_one SK1.out
    refine last_ (i := 9) (N := none) #[true, true, true, true, true, true, true, true, true, true] rfl rfl (by kernel_rfl) (by simp) (fun K hK => ?_)
    refine store_step rfl (w1 := w1.setCell ⟨gs, 0, none⟩ (.slice Av nv cv)) (by first | (go_simp; done) | (go_simp; rfl) | (go_simp; exact ⟨rfl, rfl⟩)) ?_
    refine hK.out _ _ ?_
    clear hK K
    refine norm_ (a' := ?_) ?_ ?_
    rotate_left
    · show Act.put _ none _ = _
      first | rfl | (simp only [Act.put]; rfl) | simp only [Act.put]
    refine done_ (by kernel_rfl) ?_
    go_end0
    exact ⟨_, _, W2, rfl, one_setCell SK1.out, kV_move R1.out (fun k hk => Below.heap_setCell _ _ _ k (by have := (kV_lt R1.out k hk).1; simp; omega)), HBk.out, by have := Z1.out; simp [World.setCell]; exact this, fun k h1 h2 h3 => (Below.heap_setCell _ _ _ k h2).trans (K1.out k h1 h2 h3), A1.out, Below.setCell B1.out (by simp) _⟩
end Go.Proofs.YtfhcpniibiobgaaDoor.Qf
namespace Go.Proofs.YtfhcpniibiobgaaDoor.Qf
open Go.RowKit Go.Proofs.YtfhcpniibiobgaaDoorW.PrintWords Go.Proofs.YtfhcpniibiobgaaDoorW.PrintLast Go.Proofs.YtfhcpniibiobgaaDoorW.PrintMore
open Hs (CB CL at_L at_B infoB infoL R_of_blk)

/-- A range in memory; what makes it. -/
abbrev rangeObj (gf : Nat) (b e : Int) (A : Option Addr) (n c : Nat) : Obj := .cells #[.pointer (some ⟨gf, 0, none⟩), .int .u64 b, .int .u64 e, .slice A n c] 151 (0, 0)
abbrev facObj (a0 a1 a2 a3 a4 a5 : Int) : Obj := .cells #[.func (.func 53) #[.agg #[.int .i64 a0, .int .i64 a1, .int .i64 a2, .int .u64 a3, .int .u64 a4, .int .u64 a5]] #[]] 100 (0, 0)

set_option maxHeartbeats 1000000 in
set_option maxRecDepth 100000 in
theorem newRange_calls (gf : Nat) (b e : Nat) (A : Option Addr) (n c : Nat) (hbe : b ≤ e) (hs : compact_RangeSize.f (b : Int) (e : Int) = some (n : Int)) (w : World) :
    Calls Tryd.prog 54 #[.pointer (some ⟨gf, 0, none⟩), .int .u64 (b : Nat), .int .u64 (e : Nat), .slice A n c] w fun en w' => ∃ g, en = .returned (.tuple #[.pointer (some ⟨g, 0, none⟩), .nilIface]) ∧ w.heap.size ≤ g ∧ g < w'.heap.size ∧ w'.heap[g]? = some (rangeObj gf (b : Int) (e : Int) A n c) ∧ Below w.heap.size w w' := by
  have RS := Aside0.mk (compact_RangeSize.calls (b : Int) (e : Int) (n : Int) w hs)
  have t1 : decide (e < b) = false := decide_eq_false (by omega)
  have t2 : decide ((e : Int) < (b : Int)) = false := decide_eq_false (by omega)
  have t3 : ((n : Int) != (n : Int)) = false := by simp
  clear hbe hs
  go_enter Tryd.func54, Tryd.ntmps54
  go_wp2_with (first | (go_at_call 88; (with_reducible refine RS.out.mono ?_); rintro en w1 ⟨rfl, hd⟩; have HB := Aside0.mk hd.below; clear hd))
  go_ret2
  exact ⟨_, rfl, below_size HB.out, by simp, heap_alloc_new _ _, below_step HB.out (below_alloc (Below.refl _ _) _)⟩

end Go.Proofs.YtfhcpniibiobgaaDoor.Qf
namespace Go.Proofs.YtfhcpniibiobgaaDoor.Qf
open Go.RowKit Go.Proofs.YtfhcpniibiobgaaDoorW.PrintWords Go.Proofs.YtfhcpniibiobgaaDoorW.PrintLast Go.Proofs.YtfhcpniibiobgaaDoorW.PrintMore
open Hs (CB CL at_L at_B infoB infoL R_of_blk)

/-- A row of hashes, its own block among those that may change, its elements safe. -/
def kG (S : Nat → Prop) (w0 : World) : Kd (List Int) where
  sz := 1
  E := []
  K := fun _ x cs => ∃ A c, cs = [.slice A x.length c] ∧ x.length ≤ c ∧ Safe S w0 A x
  M := fun _ _ _ x cs => ∃ A c, cs = [.slice A x.length c] ∧ x.length ≤ c ∧ Safe S w0 A x
  K_len := by
    rintro w x cs ⟨A, c, rfl, _⟩
    rfl
  K_one := by
    rintro w x cs ⟨A, c, rfl, _⟩ u hu
    rw [List.mem_singleton.1 hu]
    rfl
  K_below := fun _ h => h
  K_of_M := fun h => h
  M_mono := fun _ h => h
  M_bound := fun h => h
  M_move := fun _ h => h
  M_lower := fun _ h => h
structure Rows (S : Nat → Prop) (w : World) (base : Nat) (v : Value) (l : List (List Int)) : Prop where
  row : (kG S w).R 28 w base (fun _ => True) v l
  own : ∀ k, v.ownBlock = some k → S k
theorem Rows.step {S S' : Nat → Prop} {w w' : World} {base : Nat} {v : Value} {l : List (List Int)} (h : Rows S w base v l) (g : Grows S S' w) (k : KeptS S' w w') (ho : ∀ q, v.ownBlock = some q → w'.heap[q]? = w.heap[q]?) : Rows S' w' base v l := by
  obtain ⟨⟨h0, inner, hown, hr⟩, h2⟩ := h
  exact ⟨⟨h0, inner, own_move hown ho, hr.imp_ fun _ _ ⟨A, c, e1, e2, e3⟩ => ⟨A, c, e1, e2, e3.step g k⟩⟩, fun q hq => g.1 q (h2 q hq)⟩
theorem Rows.below {S : Nat → Prop} {w w' : World} {base : Nat} {v : Value} {l : List (List Int)} (h : Rows S w base v l) (hb : Below w.heap.size w w') : Rows S w' base v l :=
  h.step (Grows.refl _ _) (KeptS.below hb) fun q hq => hb.block q (Kd.R_lt h.row q hq)
/-- An element of the row. -/
theorem Rows.at {S : Nat → Prop} {w : World} {base : Nat} {v : Value} {l : List (List Int)} (h : Rows S w base v l) (i : Nat) (hi : i < l.length) : ∃ ad c A0 c0, v = .slice (some ad) l.length c ∧ l.length ≤ c ∧ w.cell? (ad.add i) = some (.slice A0 (l.getD i []).length c0) ∧ (l.getD i []).length ≤ c0 ∧ Safe S w A0 (l.getD i []) := by
  obtain ⟨A, c, rfl, hl, hC⟩ := Kd.R_reads h.row
  obtain ⟨ad, cs, e, _, hK, hc0⟩ := Kd.C_get hC ([] : List Int) (i : Int) (by omega) (by omega)
  simp only [Int.toNat_natCast] at hK hc0
  have hc : ∀ j u, cs[j]? = some u → w.cell? (ad.add (i * 1 + j)) = some u := hc0
  obtain ⟨A0, c0, rfl, l0, g0⟩ := hK
  subst e
  exact ⟨ad, c, A0, c0, rfl, hl, by have hq := hc 0 _ rfl; rwa [Nat.mul_one, Nat.add_zero] at hq, l0, g0⟩
end Go.Proofs.YtfhcpniibiobgaaDoor.Qf
namespace Go.Proofs.YtfhcpniibiobgaaDoor.Qf
open Go.RowKit Go.Proofs.YtfhcpniibiobgaaDoorW.PrintWords Go.Proofs.YtfhcpniibiobgaaDoorW.PrintLast Go.Proofs.YtfhcpniibiobgaaDoorW.PrintMore
open Hs (CB CL at_L at_B infoB infoL R_of_blk)

/-- The range at gr (made by gf), its hashes l in the row vr; what was seen, V, in the row vs of the variable gs. -/
structure RSt (a0 a1 a2 a3 a4 a5 : Int) (w0 : World) (gr gf gs : Nat) (S : Nat → Prop) (w : World) (b e : Int) (vr vs : Value) (l : List (List Int)) (V : List Vis) : Prop where
  below : Below w0.heap.size w0 w
  base : ∀ k, S k → w0.heap.size ≤ k
  top : ∀ k, S k → k < w.heap.size
  fac : w.heap[gf]? = some (facObj a0 a1 a2 a3 a4 a5)
  nfac : ¬ S gf
  obj : w.heap[gr]? = some (.cells #[.pointer (some ⟨gf, 0, none⟩), .int .u64 b, .int .u64 e, vr] 151 (0, 0))
  sobj : S gr
  rows : Rows S w w0.heap.size vr l
  seen : w.heap[gs]? = some (.cells #[vs] 37 (0, 0))
  sseen : S gs
  srow : (kW gs S w).R 58 w (gs + 1) (fun _ => True) vs V
  sown : ∀ k, vs.ownBlock = some k → S k
theorem below_sz' {a b c : World} (h1 : Below a.heap.size a b) (h2 : Below a.heap.size b c) : Below a.heap.size a c := h1.trans h2
theorem two_types {w : World} {g t1 t2 : Nat} {c1 c2 : Array Value} (h1 : w.heap[g]? = some (.cells c1 t1 (0, 0))) (h2 : w.heap[g]? = some (.cells c2 t2 (0, 0))) : t1 = t2 := by
  rw [h1] at h2
  injection h2 with h2
  injection h2
section
variable {a0 a1 a2 a3 a4 a5 : Int} {w0 : World} {gr gf gs : Nat} {S : Nat → Prop} {w w' : World} {b e : Int} {vr vs : Value} {l : List (List Int)} {V : List Vis}
theorem RSt.ne_gs (h : RSt a0 a1 a2 a3 a4 a5 w0 gr gf gs S w b e vr vs l V) : gr ≠ gs := fun he => by
  have h1 := h.obj
  rw [he] at h1
  exact absurd (two_types h1 h.seen) (by decide)
theorem RSt.step (h : RSt a0 a1 a2 a3 a4 a5 w0 gr gf gs S w b e vr vs l V) (hb : Below w.heap.size w w') : RSt a0 a1 a2 a3 a4 a5 w0 gr gf gs S w' b e vr vs l V where
  below := below_step h.below hb
  base := h.base
  top := fun k hk => Nat.lt_of_lt_of_le (h.top k hk) hb.size
  fac := blk_below h.fac hb
  nfac := h.nfac
  obj := blk_below h.obj hb
  sobj := h.sobj
  rows := h.rows.below hb
  seen := blk_below h.seen hb
  sseen := h.sseen
  srow := kW_turn (kV_below h.srow hb) (Grows.refl _ _) (KeptS.below hb)
  sown := h.sown
/-- The own block of the range's row is of the rows' type. -/
theorem RSt.rown (h : RSt a0 a1 a2 a3 a4 a5 w0 gr gf gs S w b e vr vs l V) : ∀ k, vr.ownBlock = some k → k ≠ gs ∧ some k ≠ vs.ownBlock ∧ k ≠ gr := fun k hk => by
  obtain ⟨_, ho⟩ := Kd.R_own h.rows.row
  obtain ⟨cells, hc⟩ := own_typed ho k hk
  refine ⟨fun he => ?_, Kd.R_ne h.srow hc (by decide), fun he => ?_⟩
  · subst he
    exact absurd (two_types hc h.seen) (by decide)
  · subst he
    exact absurd (two_types hc h.obj) (by decide)
/-- A visit: what is shown goes behind what was seen. -/
theorem RSt.visit (h : RSt a0 a1 a2 a3 a4 a5 w0 gr gf gs S w b e vr vs l V) (lv ix : Int) (A : Option Addr) (c : Nat) (s : List Int) (hs : Safe S w A s) (hl : s.length ≤ 140737488351232) (hn : V.length ≤ 1000) :
    Calls Tryd.prog 64 #[.agg #[.int .u64 lv, .int .u64 ix], .slice A s.length c, .pointer (some ⟨gs, 0, none⟩)] w fun en w' => ∃ v0 vs' S', en = .returned v0 ∧ RSt a0 a1 a2 a3 a4 a5 w0 gr gf gs S' w' b e vr vs' l (V ++ [(lv, ix, s)]) ∧ Grows S S' w ∧ KeptS S' w w' :=
  (visit_calls lv ix A c s gs V S vs w h.top hs.bytes hl h.seen (h.top _ h.sseen) h.srow hn).mono fun _ w' ⟨v0, v', W2, h1, h2, h3, hB2, hZ2, h4', h5', h6⟩ => by
    have hz := hB2.size
    have hsz : w.heap.size ≤ w'.heap.size := h6.size
    have h4 : ∀ k, k < w.heap.size → k ≠ gs → some k ≠ vs.ownBlock → w'.heap[k]? = w.heap[k]? := fun k hk a1 a2 => (h4' k (by omega) a1 a2).trans (hB2.block k hk)
    have h5 : v'.ownBlock = vs.ownBlock ∨ ∃ q, v'.ownBlock = some q ∧ w.heap.size ≤ q := h5'.imp id fun ⟨q, a1, a2⟩ => ⟨q, a1, by omega⟩
    have hg2 : Grows S (fun k => S k ∨ v'.ownBlock = some k) W2 := ⟨fun k hk => .inl hk, fun k hk => by
      rcases hk with hk | hk
      · exact .inl hk
      · rcases h5' with h5 | ⟨b', h5, h7⟩
        · exact .inl (h.sown k (h5 ▸ hk))
        · rw [h5] at hk
          injection hk with hk
          exact .inr (by omega)⟩
    have hk2 : KeptS (fun k => S k ∨ v'.ownBlock = some k) W2 w' := ⟨hZ2, fun k hk hS => h4' k hk (fun he => hS (.inl (he ▸ h.sseen))) (fun he => hS (.inl (h.sown k he.symm)))⟩
    have hgs : w0.heap.size ≤ gs := h.base _ h.sseen
    have hg : Grows S (fun k => S k ∨ v'.ownBlock = some k) w := ⟨fun k hk => .inl hk, fun k hk => by
      rcases hk with hk | hk
      · exact .inl hk
      · rcases h5 with h5 | ⟨b', h5, h7⟩
        · exact .inl (h.sown k (h5 ▸ hk))
        · rw [h5] at hk
          injection hk with hk
          exact .inr (by omega)⟩
    have hk : KeptS (fun k => S k ∨ v'.ownBlock = some k) w w' := ⟨hsz, fun k hk hS => h4 k hk (fun he => hS (.inl (he ▸ h.sseen))) (fun he => hS (.inl (h.sown k he.symm)))⟩
    have hgr : w'.heap[gr]? = w.heap[gr]? := h4 gr (h.top _ h.sobj) h.ne_gs (Kd.R_ne h.srow h.obj (by decide))
    refine ⟨v0, v', _, h1, ?_, hg, hk⟩
    exact {
      below := below_sz' h.below (h6.mono hgs)
      base := fun k hk => by
        rcases hg.2 k hk with h8 | h8
        · exact h.base k h8
        · exact Nat.le_trans h.below.size h8
      top := fun k hk => by
        rcases hk with hk | hk
        · exact Nat.lt_of_lt_of_le (h.top k hk) hsz
        · exact (kV_lt h3 k hk).2
      fac := (h4 gf (lt_of_block h.fac) (fun he => h.nfac (he ▸ h.sseen)) (fun he => h.nfac (h.sown gf he.symm))).trans h.fac
      nfac := fun hk => by
        rcases hg.2 gf hk with h8 | h8
        · exact h.nfac h8
        · have := lt_of_block h.fac
          omega
      obj := hgr.trans h.obj
      sobj := .inl h.sobj
      rows := h.rows.step hg hk fun q hq => h4 q (Kd.R_lt h.rows.row q hq) (h.rown q hq).1 (h.rown q hq).2.1
      seen := h2
      sseen := .inl h.sseen
      srow := kW_turn h3 hg2 hk2
      sown := fun k hk => .inr hk }
end
end Go.Proofs.YtfhcpniibiobgaaDoor.Qf
namespace Go.Proofs.YtfhcpniibiobgaaDoor.Qf
open Go.RowKit Go.Proofs.YtfhcpniibiobgaaDoorW.PrintWords Go.Proofs.YtfhcpniibiobgaaDoorW.PrintLast Go.Proofs.YtfhcpniibiobgaaDoorW.PrintMore
open Hs (CB CL at_L at_B infoB infoL R_of_blk)
variable {a0 a1 a2 a3 a4 a5 : Int} {w0 : World} {gr gf gs : Nat} {S : Nat → Prop} {w w8 : World} {b e : Int} {vr vs : Value} {l : List (List Int)} {V : List Vis}
theorem RSt.put (h : RSt a0 a1 a2 a3 a4 a5 w0 gr gf gs S w b e vr vs l V) {v2 : Value} {l2 : List (List Int)} (hrow : (kG S w).R 28 w8 w0.heap.size (fun _ => True) v2 l2)
    (hG : ∀ k, k < w.heap.size → some k ≠ vr.ownBlock → w8.heap[k]? = w.heap[k]?) (hsz : w.heap.size ≤ w8.heap.size) (hB : Below w0.heap.size w0 w8) (hA : v2.ownBlock = vr.ownBlock ∨ ∃ q, v2.ownBlock = some q ∧ w.heap.size ≤ q) (x : Int) :
    RSt a0 a1 a2 a3 a4 a5 w0 gr gf gs (fun k => S k ∨ v2.ownBlock = some k) ((w8.setCell ⟨gr, 3, none⟩ v2).setCell ⟨gr, 2, none⟩ (.int .u64 x)) b x v2 vs l2 V ∧ Grows S (fun k => S k ∨ v2.ownBlock = some k) w ∧ KeptS (fun k => S k ∨ v2.ownBlock = some k) w ((w8.setCell ⟨gr, 3, none⟩ v2).setCell ⟨gr, 2, none⟩ (.int .u64 x)) := by
  have hown : ∀ k, vr.ownBlock = some k → S k := h.rows.own
  have hrne : some gr ≠ vr.ownBlock := fun he => (h.rown gr he.symm).2.2 rfl
  have hgr8 : w8.heap[gr]? = some (.cells #[.pointer (some ⟨gf, 0, none⟩), .int .u64 b, .int .u64 e, vr] 151 (0, 0)) := (hG gr (h.top _ h.sobj) hrne).trans h.obj
  have far : ∀ k, k ≠ gr → ((w8.setCell ⟨gr, 3, none⟩ v2).setCell ⟨gr, 2, none⟩ (.int .u64 x)).heap[k]? = w8.heap[k]? := fun k hk => (Below.heap_setCell _ _ _ k hk).trans (Below.heap_setCell _ _ _ k hk)
  have size9 : ((w8.setCell ⟨gr, 3, none⟩ v2).setCell ⟨gr, 2, none⟩ (.int .u64 x)).heap.size = w8.heap.size := by simp [World.setCell]
  have hg : Grows S (fun k => S k ∨ v2.ownBlock = some k) w := ⟨fun k hk => .inl hk, fun k hk => by
    rcases hk with hk | hk
    · exact .inl hk
    · rcases hA with h5 | ⟨b', h5, h7⟩
      · exact .inl (hown k (h5 ▸ hk))
      · rw [h5] at hk
        injection hk with hk
        exact .inr (by omega)⟩
  have hk : KeptS (fun k => S k ∨ v2.ownBlock = some k) w ((w8.setCell ⟨gr, 3, none⟩ v2).setCell ⟨gr, 2, none⟩ (.int .u64 x)) := ⟨by rw [size9]; exact hsz, fun k hk hS => (far k (fun he => hS (.inl (he ▸ h.sobj)))).trans (hG k hk (fun he => hS (.inl (hown k he.symm))))⟩
  refine ⟨?_, hg, hk⟩
  have hob : ∀ q, v2.ownBlock = some q → q ≠ gr ∧ q < w8.heap.size ∧ w0.heap.size ≤ q := fun q hq => by
    obtain ⟨_, ho⟩ := Kd.R_own hrow
    obtain ⟨cells, hc⟩ := own_typed ho q hq
    refine ⟨fun he => ?_, Kd.R_lt hrow q hq, Kd.R_base hrow q hq⟩
    subst he
    exact absurd (two_types hc hgr8) (by decide)
  obtain ⟨h0, inner, hown2, hr⟩ := hrow
  exact {
    below := Below.setCell (Below.setCell hB (h.base _ h.sobj) _) (h.base _ h.sobj) _
    base := fun k hk => by
      rcases hk with hk | hk
      · exact h.base k hk
      · exact (hob k hk).2.2
    top := fun k hk => by
      rw [size9]
      rcases hk with hk | hk
      · exact Nat.lt_of_lt_of_le (h.top k hk) hsz
      · exact (hob k hk).2.1
    fac := (far gf (fun he => h.nfac (he ▸ h.sobj))).trans ((hG gf (lt_of_block h.fac) (fun he => h.nfac (hown gf he.symm))).trans h.fac)
    nfac := fun hk => by
      rcases hg.2 gf hk with h8 | h8
      · exact h.nfac h8
      · have := lt_of_block h.fac
        omega
    obj := by
      have h1 := blk_set (blk_set hgr8 3 v2) 2 (.int .u64 x)
      simpa using h1
    sobj := .inl h.sobj
    rows := ⟨⟨h0, inner, own_move hown2 (fun q hq => far q (hob q hq).1), hr.imp_ fun _ _ ⟨A, c, e1, e2, e3⟩ => ⟨A, c, e1, e2, e3.step hg hk⟩⟩, fun q hq => .inr hq⟩
    seen := (far gs (Ne.symm h.ne_gs)).trans ((hG gs (h.top _ h.sseen) (fun he => (h.rown gs he.symm).1 rfl)).trans h.seen)
    sseen := .inl h.sseen
    srow := kW_turn (kV_move h.srow fun q hq => (far q (fun he => Kd.R_ne h.srow h.obj (by decide) (he ▸ hq.symm))).trans (hG q (kV_lt h.srow q hq).2 (fun he => (h.rown q he.symm).2.1 hq.symm))) hg hk
    sown := fun k hk => .inl (h.sown k hk) }
end Go.Proofs.YtfhcpniibiobgaaDoor.Qf
