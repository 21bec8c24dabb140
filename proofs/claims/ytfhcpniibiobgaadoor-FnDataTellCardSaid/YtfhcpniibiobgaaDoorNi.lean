/- The tree's Hash; impl.TreeOfData, walked. -/
import Derived.Test.YtfhcpniibiobgaaDoorNh
namespace Go.Proofs.YtfhcpniibiobgaaDoor.Qf
open Go.RowKit Go.Proofs.YtfhcpniibiobgaaDoorW.PrintWords Go.Proofs.YtfhcpniibiobgaaDoorW.PrintLast Go.Proofs.YtfhcpniibiobgaaDoorW.PrintMore
open Hs (CB CL at_L at_B infoB infoL R_of_blk)

/-- Appending to an empty literal: nothing of the old world is touched. -/
theorem app_lit (W : World) (g : Nat) (A : Option Addr) (c : Nat) (ys : List Int) (hy : CB W A ys) (hl : ys.length ≤ 140737488351232) :
    ∃ A' c' w1, (Builtin.append_ #[28, 28] 28 #[.slice (some ⟨g, 0, none⟩) 0 0, .slice A ys.length c]).run Tryd.prog W = .ok (.slice A' ys.length c') w1 ∧ ys.length ≤ c' ∧ CB w1 A' ys ∧ Below W.heap.size W w1 := by
  obtain ⟨i0, hi, hz⟩ := Option.map_eq_some_iff.1 infoB
  simp only [Prod.mk.injEq] at hz
  obtain ⟨hz0, hz1, hz2⟩ := hz
  by_cases h0 : ys = []
  · subst h0
    refine ⟨some ⟨g, 0, none⟩, 0, W, ?_, Nat.le_refl _, ⟨rfl, by simp, fun h => by simp at h⟩, Below.refl _ _⟩
    rcases A with _ | ad
    · simp [Builtin.append_, run_underlying Tryd.underlying28, sizeOf, typeInfo, hi, Builtin.lenOf, Builtin.firstCells, storeCells]
    · have hr := run_append_room_cells (P := Tryd.prog) W 28 28 5 i0 Tryd.underlying28 hi g 0 0 0 ad 0 c [] (by simp) (by simp) (by simp) (Nat.le_refl _) (by simp) (by simp)
      exact hr
  · have hpos : 0 < ys.length := List.length_pos_iff.2 h0
    obtain ⟨ad, rfl, _⟩ := at_B hy 0 hpos
    have hnews : ∀ j u, (ys.map (Value.int .u8))[j]? = some u → W.cell? (ad.add j) = some u := by
      intro j u hj
      rw [List.getElem?_map] at hj
      obtain ⟨x, hx, rfl⟩ := Option.map_eq_some_iff.1 hj
      obtain ⟨hjl, hxe⟩ := List.getElem?_eq_some_iff.1 hx
      obtain ⟨ad', e, hc⟩ := at_B hy j hjl
      cases e
      rw [List.getD_eq_getElem?_getD, List.getElem?_eq_getElem hjl, Option.getD_some, hxe] at hc
      exact hc
    obtain ⟨v', w', hrun, hown, hg⟩ := run_append_arg_grows (P := Tryd.prog) W 28 28 5 i0 (.int .u8 0) 1 1 Tryd.underlying28 hi hz0 hz1 hz2 rfl (by omega) ⟨g, 0, none⟩ 0 0 [] rfl (fun j u h => by simp at h) ad ys.length c (ys.map (Value.int .u8)) (by simp) hnews (by omega) (by unfold maxLen; omega) (by omega)
    rw [List.nil_append, Nat.zero_add] at hown
    have hR : Kd.R (Kd.int .u8) 5 w' W.heap.size (fun _ => True) v' ys := ⟨fun _ _ => trivial, _, hown, by show _ = _ * 1; simp, fun j p hj => by
      show ((ys.map (Value.int .u8)).drop (j * 1)).take 1 = [Value.int .u8 p]
      obtain ⟨hjl, hp⟩ := List.getElem?_eq_some_iff.1 hj
      rw [Nat.mul_one, List.drop_eq_getElem_cons (by rw [List.length_map]; exact hjl), List.take_succ_cons, List.take_zero, List.getElem_map, hp]⟩
    obtain ⟨A', c', rfl, hlc, hC⟩ := Kd.R_reads hR
    exact ⟨A', c', w', hrun, hlc, hC, pw_below_grown (Below.refl _ _) none (Nat.le_refl _) hg (fun k h => by simp at h)⟩
-- REGION
theorem app_event {ops : Array Oper} {rest : List Oper} {o : Oper} {a : Act} {Q : Exit → Act → World → Prop} {W w1 : World} {A A' : Option Addr} {n c c' : Nat} (g : Nat) (s x : Operand) (hgd : o.guard = none) (ho : o.op = .call { callee := .builtin .append, args := #[s, x], argTypes := #[28, 28] }) (hty : o.type = 28) (hs : a.eval s = .slice (some ⟨g, 0, none⟩) 0 0) (hx : a.eval x = .slice A n c)
    (hrun : (Builtin.append_ #[28, 28] 28 #[.slice (some ⟨g, 0, none⟩) 0 0, .slice A n c]).run Tryd.prog W = .ok (.slice A' n c') w1) (h : wpList Tryd.prog ops Q rest (a.put o.dst (.slice A' n c')) w1) : wpList Tryd.prog ops Q (o :: rest) a W := by
  refine Kd.event_run hgd (v := .slice A' n c') (w1 := w1) ?_ h
  unfold execOp
  simp only [ho, hty, resolve, invoke, builtin, Sem.run_bind, Sem.run_pure, Result.andThen_ok, List.map_toArray, List.map_cons, List.map_nil, hs, hx, hrun]
set_option maxHeartbeats 1000000 in
set_option maxRecDepth 100000 in
theorem tHash_calls (gt : Nat) (T vh : Value) (n : Int) (r : List Int) (w : World) (hob : w.heap[gt]? = some (.cells #[T, .int .u64 n, vh] 143 (0, 0))) (h : Calls Tryd.prog 74 #[.pointer (some ⟨gt, 0, none⟩), .int .u64 n] w fun en w' => ∃ A c, en = .returned (.slice A r.length c) ∧ r.length ≤ c ∧ CB w' A r ∧ Below w.heap.size w w') :
    Calls Tryd.prog 51 #[.pointer (some ⟨gt, 0, none⟩)] w fun en w' => ∃ A c, en = .returned (.slice A r.length c) ∧ r.length ≤ c ∧ CB w' A r ∧ Below w.heap.size w w' := by
  have k1 : w.cell? ⟨gt, 1, none⟩ = some (.int .u64 n) := (blk_cell hob 1).trans rfl
  have HC := Aside0.mk h
  clear hob h
  go_enter Tryd.func51, Tryd.ntmps51
  go_wp2_with (first
    | (go_at_call 74; (with_reducible refine HC.out.mono ?_); rintro en w5 ⟨A5, c5, rfl, h1, h2, h3⟩; have H1 := Aside0.mk h1; have H2 := Aside0.mk h2; have H3 := Aside0.mk h3; clear h1 h2 h3))
  go_ret
  exact ⟨A5, c5, rfl, H1.out, H2.out, H3.out⟩
set_option maxHeartbeats 4000000 in
set_option maxRecDepth 100000 in
theorem treeOfData_calls (a0 a1 a2 a3 a4 a5 : Int) (A : Option Addr) (c : Nat) (M : List (List Int)) (w : World) (k : Nat) (hl : Nat → List Int) (rs : Nat → List (List (List Int))) (r : List Int) (hM : CL w A M) (hc : M.length ≤ c) (HG_ : Glob w) (ht : impl_texts.f k M = some M) (hMl : M.length ≤ 300) (hH : ∀ j, j < M.length → impl_toy_HashLeaf.f a0 a1 a2 a3 a4 a5 (M.getD j []) = some (hl j)) (hst : ∀ j, j < M.length → TStep a0 a1 a2 a3 a4 a5 j (rs j) (hl j) (rs (j + 1))) (hr0 : rs 0 = []) (hr1 : 0 < M.length → 0 < (rs M.length).length) (hr2 : ((rs M.length).getD 0 []).length = M.length) (hr3 : ∀ i, (((rs M.length).getD 0 []).getD i []).length ≤ 140737488351232)
    (hHA : ∀ (w0 : World) (gt : Nat) (S : Nat → Prop) (w1 : World) (vh : Value) (rv : List RV), TSt (toyV a0 a1 a2 a3 a4 a5) w0 gt S w1 (M.length : Int) vh rv rv (rs M.length) → Glob w1 → Calls Tryd.prog 74 #[.pointer (some ⟨gt, 0, none⟩), .int .u64 (M.length : Int)] w1 fun en w' => ∃ A c, en = .returned (.slice A r.length c) ∧ r.length ≤ c ∧ CB w' A r ∧ Below w1.heap.size w1 w') :
    Calls Tryd.prog 16 #[.agg #[.int .i64 a0, .int .i64 a1, .int .i64 a2, .int .u64 a3, .int .u64 a4, .int .u64 a5], .slice A M.length c] w fun en w' => ∃ vl Ar cr, en = .returned (.tuple #[.int .u64 (M.length : Int), vl, .slice Ar r.length cr]) ∧ r.length ≤ cr ∧ CB w' Ar r ∧ Below w.heap.size w w' := by
  have HM := Aside0.mk hM
  have HG := Aside0.mk HG_
  have HTX := Aside0.mk ht
  have HML := Aside0.mk hMl
  have HH := Aside0.mk hH
  have HST := Aside0.mk hst
  have HR0 := Aside0.mk hr0
  have HR1 := Aside0.mk hr1
  have HR2 := Aside0.mk hr2
  have HR3 := Aside0.mk hr3
  have HHA := Aside0.mk hHA
  clear hM HG_ ht hMl hH hst hr0 hr1 hr2 hr3 hHA
  have HBx : Aside0 (Below w.heap.size w (w.alloc (.cells #[.int .i64 a0, .int .i64 a1, .int .i64 a2, .int .u64 a3, .int .u64 a4, .int .u64 a5] 24))) := ⟨below_alloc (Below.refl _ _) _⟩
  have hsx : (w.alloc (.cells #[.int .i64 a0, .int .i64 a1, .int .i64 a2, .int .u64 a3, .int .u64 a4, .int .u64 a5] 24)).heap.size = w.heap.size + 1 := by simp
  go_enter Tryd.func16, Tryd.ntmps16
  go_wp2_with (first
    | (go_at_call 46; (with_reducible refine (tNew_calls (.agg #[.int .i64 a0, .int .i64 a1, .int .i64 a2, .int .u64 a3, .int .u64 a4, .int .u64 a5]) _).mono ?_); rintro en w2 ⟨rfl, hw2⟩; have HI := Aside0.mk (TSt.init (toyV a0 a1 a2 a3 a4 a5) w (w.alloc (.cells #[.int .i64 a0, .int .i64 a1, .int .i64 a2, .int .u64 a3, .int .u64 a4, .int .u64 a5] 24)) HBx.out); rw [show (w.alloc (.cells #[.int .i64 a0, .int .i64 a1, .int .i64 a2, .int .u64 a3, .int .u64 a4, .int .u64 a5] 24)).alloc (.cells #[toyV a0 a1 a2 a3 a4 a5, .int .u64 0, .slice none 0 0] 143) = w2 from hw2.symm] at HI; clear hw2; generalize (w.alloc (.cells #[.int .i64 a0, .int .i64 a1, .int .i64 a2, .int .u64 a3, .int .u64 a4, .int .u64 a5] 24)).heap.size = gt at HI ⊢)
    | (go_at_call 48; (with_reducible refine (impl_texts.calls k A c M M _ (Kd.C_below HM.out HI.out.below) hc HTX.out).mono ?_); rintro e' w3 ⟨v3, rfl, hS, hb⟩; obtain ⟨A3, d3, rfl, hd3, hLR⟩ := LRow.new HI.out.top hS; have HLR := Aside0.mk hLR; have HI3 := Aside0.mk (HI.out.step hb); clear hS hb hLR hd3)
    | (go_at_call 47; (with_reducible refine (tData_calls a0 a1 a2 a3 a4 a5 w gt (fun q => q = gt) w3 (.slice none 0 0) [] A3 d3 M hl rs (by rw [HR0.out]; exact HI3.out) HLR.out HML.out HH.out HST.out).mono ?_); rintro en w5 ⟨v5, vh5, rv5, S5, rfl, hT5, _, _⟩; have HT5 := Aside0.mk hT5; clear hT5))
  (try simp only [Act.put, List.setIfInBounds_toArray, List.set_cons_zero, List.set_cons_succ])
  clear hsx HI HI3 HLR
  go_loopg [5, 8] M.length (fun kq v5 v8 wr => ∃ (j : Nat) (lv : List RV), j + kq = M.length ∧ v8 = .int .u64 (j : Nat) ∧ Aside0 (kO.R 28 wr w5.heap.size (fun _ => True) v5 lv) ∧ Aside0 (lv.length = j) ∧ Aside0 (Below w5.heap.size w5 wr))
  case atStart => exact ⟨0, [], by omega, rfl, ⟨Kd.R_nil _ _ _ _ _⟩, ⟨rfl⟩, ⟨Below.refl _ _⟩⟩
  case round =>
    skip
    obtain ⟨j, lv, hj, rfl, HO, HLV, HB⟩ := hrel
    rename World => wr
    have HJ := Aside0.mk hj
    clear hj
    have j0 : (0 : Int) ≤ (j : Int) := by omega
    by_cases hlt : j < M.length
    · have t1 : decide ((j : Int) < (M.length : Int)) = true := decide_eq_true (by omega)
      have t1n : decide (j < M.length) = true := decide_eq_true hlt
      have HJL := Aside0.mk hlt
      clear hlt
      obtain ⟨leaf, hleaf⟩ : ∃ leaf, leaf = ((rs M.length).getD 0 []).getD j [] := ⟨_, rfl⟩
      have HLF := Aside0.mk hleaf
      have HLL : Aside0 (leaf.length ≤ 140737488351232) := ⟨by rw [hleaf]; exact HR3.out j⟩
      clear hleaf
      go_wp2_with (first
        | (go_at_call 49; (with_reducible refine (tSize_calls gt (toyV a0 a1 a2 a3 a4 a5) vh5 (M.length : Int) _ (blk_below HT5.out.obj HB.out)).mono ?_); rintro en w6 ⟨rfl, hb⟩; have HB6 := Aside0.mk (below_step HB.out hb); have HO6 := Aside0.mk (Kd.R_below HO.out hb); have HBa : Aside0 (Below w5.heap.size w5 (w6.alloc (.cells #[] 5))) := ⟨below_step HB6.out (below_alloc (Below.refl _ _) _)⟩; clear hb)
        | (go_at_call 50; (with_reducible refine (tLeaf_calls (toyV a0 a1 a2 a3 a4 a5) w gt S5 _ (M.length : Int) vh5 rv5 (rs M.length) j (HT5.out.step HBa.out) (HR1.out (by have := HJL.out; omega)) (by rw [HR2.out]; exact HJL.out) (by rw [HR2.out]; have := HML.out; omega)).mono ?_); rintro en w7 ⟨A7, c7, rfl, h7, hs7, hb⟩; rw [← HLF.out] at h7 hs7 ⊢; obtain ⟨A8, c8, w8, hrun, h8, hC8, hB8⟩ := app_lit w7 w6.heap.size A7 c7 leaf (Kd.C_below hs7.bytes hb) HLL.out; have HB8 := Aside0.mk (below_step (below_step HBa.out hb) hB8); have HO8 := Aside0.mk (Kd.R_below (Kd.R_below (Kd.R_below HO6.out (below_alloc (Below.refl _ _) (.cells #[] 5))) hb) hB8); clear h7 hs7 hb h8 hC8 hB8)
        | ((with_reducible refine gate_builtin (b := .append) (xs := #[.tmp 24, .tmp 27]) rfl ?_); refine app_event w6.heap.size (.tmp 24) (.tmp 27) rfl rfl rfl rfl rfl hrun ?_; clear hrun)
        | ((with_reducible refine gate_builtin (b := .append) (xs := #[.tmp 23, .tmp 29]) rfl ?_); at_builtin; refine Kd.R_append kO (w0 := w5) w5.heap.size rfl (.tmp 23) (.tmp 29) 25 28 (.slice none 0 0) 24 rfl Tryd.underlying25 infoL rfl Nat.zero_lt_one (by omega) _ lv ((A8, leaf.length, c8) : RV) [.slice A8 leaf.length c8] (fun _ => True) (fun _ => False) rfl rfl rfl (fun _ h => h.elim) (fun _ _ => trivial) HO8.out HB8.out HB8.out.size (by have := HLV.out; have := HJL.out; have := HML.out; omega) ?_; intro v9 w9 ho hb hg hat; have HO9 := Aside0.mk ho; have HB9 := Aside0.mk hb; clear ho hb hg hat))
      have hj64 : ∀ z : Int, z = 1 → IntKind.u64.wrap ((j : Int) + z) = ((j + 1 : Nat) : Int) := fun z hz => by
        rw [hz]
        show ((j : Int) + 1) % 18446744073709551616 = _
        have := HML.out
        have := HJL.out
        omega
      have HLV9 : Aside0 ((lv ++ [((A8, leaf.length, c8) : RV)]).length = j + 1) := ⟨by rw [List.length_append, HLV.out]; rfl⟩
      go_roundg (M.length - (j + 1))
      case measure =>
        clear hj64
        have := HJ.out
        have := HJL.out
        omega
      case rel =>
        have hv := hj64 1 rfl
        have hj2 : j + 1 + (M.length - (j + 1)) = M.length := by clear hv hj64; have := HJL.out; omega
        exact ⟨j + 1, _, hj2, by first | rfl | exact congrArg (Value.int .u64) hv, HO9, HLV9, HB9⟩
    · have t1 : decide ((j : Int) < (M.length : Int)) = false := decide_eq_false (by omega)
      have t1n : decide (j < M.length) = false := decide_eq_false hlt
      clear hlt
      go_wp2_with (first
        | (go_at_call 49; (with_reducible refine (tSize_calls gt (toyV a0 a1 a2 a3 a4 a5) vh5 (M.length : Int) _ (blk_below HT5.out.obj HB.out)).mono ?_); rintro en w6 ⟨rfl, hb⟩; have HB6 := Aside0.mk (below_step HB.out hb); clear HB hb; have HB := HB6; clear HB6)
        | (go_at_call 51; (with_reducible refine (tHash_calls gt (toyV a0 a1 a2 a3 a4 a5) vh5 (M.length : Int) r _ (blk_below HT5.out.obj HB.out) (HHA.out w gt S5 _ vh5 rv5 (HT5.out.step HB.out) (Glob.below HG.out (HT5.out.step HB.out).below))).mono ?_); rintro en w8 ⟨A8, c8, rfl, h8, hC8, hb⟩; have H8 := Aside0.mk h8; have HC8 := Aside0.mk hC8; have HB8 := Aside0.mk (below_step (HT5.out.step HB.out).below hb); clear h8 hC8 hb))
      go_ret3
      exact ⟨_, A8, c8, rfl, H8.out, HC8.out, HB8.out⟩
end Go.Proofs.YtfhcpniibiobgaaDoor.Qf
