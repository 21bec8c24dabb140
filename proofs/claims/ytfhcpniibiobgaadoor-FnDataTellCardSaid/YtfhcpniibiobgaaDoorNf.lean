/- Entries appended to the tree. -/
import Derived.Test.YtfhcpniibiobgaaDoorNe
namespace Go.Proofs.YtfhcpniibiobgaaDoor.Qf
open Go.RowKit Go.Proofs.YtfhcpniibiobgaaDoorW.PrintWords Go.Proofs.YtfhcpniibiobgaaDoorW.PrintLast Go.Proofs.YtfhcpniibiobgaaDoorW.PrintMore
open Hs (CB CL at_L at_B infoB infoL R_of_blk)

theorem meth_hl (a0 a1 a2 a3 a4 a5 : Int) (W : World) : (method 304 90 (.agg #[.int .i64 a0, .int .i64 a1, .int .i64 a2, .int .u64 a3, .int .u64 a4, .int .u64 a5]) "HashLeaf").run Tryd.prog W = .ok (137, .agg #[.int .i64 a0, .int .i64 a1, .int .i64 a2, .int .u64 a3, .int .u64 a4, .int .u64 a5]) W := by kernel_rfl
theorem meth_er (a0 a1 a2 a3 a4 a5 : Int) (W : World) : (method 304 90 (.agg #[.int .i64 a0, .int .i64 a1, .int .i64 a2, .int .u64 a3, .int .u64 a4, .int .u64 a5]) "EmptyRoot").run Tryd.prog W = .ok (136, .agg #[.int .i64 a0, .int .i64 a1, .int .i64 a2, .int .u64 a3, .int .u64 a4, .int .u64 a5]) W := by kernel_rfl
/-- The leaves' row: its blocks are none that change. -/
structure LRow (S : Nat → Prop) (w : World) (A : Option Addr) (M : List (List Int)) : Prop where
  get : ∀ j, j < M.length → ∃ ad A0 c0, A = some ad ∧ w.cell? (ad.add j) = some (.slice A0 (M.getD j []).length c0) ∧ (M.getD j []).length ≤ c0 ∧ Safe S w A0 (M.getD j []) ∧ ad.block < w.heap.size ∧ ¬ S ad.block
theorem LRow.step {S S' : Nat → Prop} {w w' : World} {A : Option Addr} {M : List (List Int)} (h : LRow S w A M) (g : Grows S S' w) (k : KeptS S' w w') : LRow S' w' A M where
  get := fun j hj => by
    obtain ⟨ad, A0, c0, e1, e2, e3, e4, e5, e6⟩ := h.get j hj
    have hn : ¬ S' ad.block := fun hs => by
      rcases g.2 _ hs with h1 | h1
      · exact e6 h1
      · omega
    refine ⟨ad, A0, c0, e1, ?_, e3, e4.step g k, Nat.lt_of_lt_of_le e5 k.size, hn⟩
    rw [← e2]
    unfold World.cell?
    rw [show (ad.add j).block = ad.block by unfold Addr.add; split <;> rfl, k.block _ e5 hn]
theorem LRow.new {S : Nat → Prop} {w w' : World} {v : Value} {M : List (List Int)} (hS : ∀ k, S k → k < w.heap.size) (h : Kd.S (Kd.slice 5 (Kd.int .u8)) 28 w' w.heap.size (fun _ => True) v M) : ∃ A c, v = .slice A M.length c ∧ M.length ≤ c ∧ LRow S w' A M := by
  have hR := Kd.S_R h
  obtain ⟨A, c, e, hl, hr⟩ := OwnRow.reads hR.2
  have hC : (kG S w').C w' A M.length M := hr.imp_ (Below.refl _ _) fun x cs hp => by
    obtain ⟨u, ecs, hu⟩ := hp
    obtain ⟨A', c', e', hl', _⟩ := Kd.R_reads hu
    subst e'
    exact ⟨A', c', ecs, hl', Safe.new hS (Kd.R_mono hu (fun _ _ => trivial))⟩
  refine ⟨A, c, e, hl, ⟨fun j hj => ?_⟩⟩
  obtain ⟨ad, cs, ea, _, hK, hc0⟩ := Kd.C_get hC ([] : List Int) (j : Int) (by omega) (by omega)
  simp only [Int.toNat_natCast] at hK hc0
  have hc : ∀ i u, cs[i]? = some u → w'.cell? (ad.add (j * 1 + i)) = some u := hc0
  obtain ⟨A0, c0, rfl, l0, g0⟩ := hK
  subst ea e
  have hb : w.heap.size ≤ ad.block := Kd.R_base hR _ rfl
  exact ⟨ad, A0, c0, rfl, by have hq := hc 0 _ rfl; rwa [Nat.mul_one, Nat.add_zero] at hq, l0, g0, Kd.R_lt hR _ rfl, fun hs => by have := hS _ hs; omega⟩


/-- What one leaf more makes of the rows. -/
def TStep (a0 a1 a2 a3 a4 a5 : Int) (n : Nat) (rows : List (List (List Int))) (s : List Int) (rows' : List (List (List Int))) : Prop :=
  ∃ (m : Nat) (sj : Nat → List Int), sj 0 = s ∧ m ≤ rows.length ∧ rows.length ≤ 100 ∧ m < 64 ∧ (∀ i, i < rows.length → (rows.getD i []).length ≤ 100000) ∧ (∀ i, i < m → n / 2 ^ i % 2 = 1) ∧ n / 2 ^ m % 2 = 0 ∧ (∀ i, i < m → 0 < (rows.getD i []).length) ∧ (∀ i, i < m → impl_toy_HashChildren.f a0 a1 a2 a3 a4 a5 ((rows.getD i []).getD ((rows.getD i []).length - 1) []) (sj i) = some (sj (i + 1))) ∧ rows' = upT rows sj m
theorem TStep.calls {a0 a1 a2 a3 a4 a5 : Int} {n : Nat} {rows rows' : List (List (List Int))} {s : List Int} (ht : TStep a0 a1 a2 a3 a4 a5 n rows s rows') {w0 : World} {gt : Nat} {S : Nat → Prop} {w : World} {vh : Value} {rv : List RV} (As : Option Addr) (cs : Nat) (h : TSt (toyV a0 a1 a2 a3 a4 a5) w0 gt S w (n : Int) vh rv rv rows) (hs : Safe S w As s) (hsc : s.length ≤ cs) (hn : n + 1 < 18446744073709551616) :
    Calls Tryd.prog 84 #[.pointer (some ⟨gt, 0, none⟩), .slice As s.length cs] w fun en w' => ∃ v0 vh' rv' S', en = .returned v0 ∧ TSt (toyV a0 a1 a2 a3 a4 a5) w0 gt S' w' ((n : Int) + 1) vh' rv' rv' rows' ∧ Grows S S' w ∧ KeptS S' w w' := by
  obtain ⟨m, sj, rfl, h1, h2, h3, h4, h5, h6, h7, h8, rfl⟩ := ht
  exact tAppend_calls a0 a1 a2 a3 a4 a5 w0 gt S w n vh rv rows As cs sj m h hs hsc hn h1 h2 h3 h4 h5 h6 h7 h8
set_option maxHeartbeats 2000000 in
set_option maxRecDepth 100000 in
theorem tData_calls (a0 a1 a2 a3 a4 a5 : Int) (w0 : World) (gt : Nat) (S : Nat → Prop) (w : World) (vh : Value) (rv : List RV) (Am : Option Addr) (cm : Nat) (M : List (List Int)) (hl : Nat → List Int) (rs : Nat → List (List (List Int)))
    (h : TSt (toyV a0 a1 a2 a3 a4 a5) w0 gt S w 0 vh rv rv (rs 0)) (hM : LRow S w Am M) (hMl : M.length ≤ 300) (hH : ∀ j, j < M.length → impl_toy_HashLeaf.f a0 a1 a2 a3 a4 a5 (M.getD j []) = some (hl j)) (hst : ∀ j, j < M.length → TStep a0 a1 a2 a3 a4 a5 j (rs j) (hl j) (rs (j + 1))) :
    Calls Tryd.prog 47 #[.pointer (some ⟨gt, 0, none⟩), .slice Am M.length cm] w fun en w' => ∃ v0 vh' rv' S', en = .returned v0 ∧ TSt (toyV a0 a1 a2 a3 a4 a5) w0 gt S' w' (M.length : Int) vh' rv' rv' (rs M.length) ∧ Grows S S' w ∧ KeptS S' w w' := by
  have HT := Aside0.mk h
  have HLR := Aside0.mk hM
  have HH := Aside0.mk hH
  have HST := Aside0.mk hst
  have HML := Aside0.mk hMl
  clear h hM hH hst hMl
  have hmt := meth_hl a0 a1 a2 a3 a4 a5
  go_enter Tryd.func47, Tryd.ntmps47
  go_wp2
  (try simp only [Act.put, List.setIfInBounds_toArray, List.set_cons_zero, List.set_cons_succ])
  go_loopg [8] M.length (fun kq v8 wr => ∃ (j : Nat) (vh' : Value) (rv' : List RV) (S' : Nat → Prop), j + kq = M.length ∧ v8 = .int .i64 (j : Nat) ∧ Aside0 (TSt (toyV a0 a1 a2 a3 a4 a5) w0 gt S' wr (j : Int) vh' rv' rv' (rs j)) ∧ Aside0 (LRow S' wr Am M) ∧ Aside0 (Grows S S' w) ∧ Aside0 (KeptS S' w wr))
  case atStart => exact ⟨0, vh, rv, S, by omega, rfl, HT, HLR, ⟨Grows.refl _ _⟩, ⟨KeptS.refl _ _⟩⟩
  case round =>
    clear HT HLR
    obtain ⟨j, vh', rv', S', hj, rfl, HT, HLR, HGr, HKp⟩ := hrel
    rename World => wr
    by_cases hlt : j < M.length
    · obtain ⟨ad, A0, c0, ead, hx, hxl, hsf, _, _⟩ := HLR.out.get j hlt
      subst ead
      have HHL := Aside0.mk (HH.out j hlt)
      have HSTj := Aside0.mk (HST.out j hlt)
      generalize M.getD j [] = x at hx hxl hsf HHL
      have HSF := Aside0.mk hsf
      have HXL := Aside0.mk hxl
      clear hsf hxl
      have hj0 : (0 : Int) ≤ (j : Int) := by omega
      have hj1 : (j : Int) < (M.length : Int) := by omega
      have k0 : wr.cell? ⟨gt, 0, none⟩ = some (toyV a0 a1 a2 a3 a4 a5) := (blk_cell HT.out.obj 0).trans rfl
      have HJL : Aside0 (j < M.length) := ⟨hlt⟩
      go_wp2_with (first
        | (go_at_call 137; (with_reducible refine (impl_toy_HashLeaf.calls a0 a1 a2 a3 a4 a5 A0 c0 x (hl j) _ HSF.out.bytes HXL.out HHL.out).mono ?_); rintro en w5 ⟨v5, rfl, hR5, hb⟩; obtain ⟨A5, c5, rfl, hl5, _⟩ := Kd.R_reads hR5; have HS5 := Aside0.mk (Safe.new (S := S') HT.out.top hR5); have HT5 := Aside0.mk (HT.out.step hb); have HL5 := Aside0.mk hl5; have HB5 := Aside0.mk hb; clear hR5 hl5 hb k0)
        | (go_at_call 84; (with_reducible refine (HSTj.out.calls A5 c5 HT5.out HS5.out HL5.out (by have := HML.out; have := HJL.out; omega)).mono ?_); rintro en w6 ⟨v6, vh6, rv6, S6, rfl, hT6, hG6, hK6⟩; have HT6 := Aside0.mk hT6; have HG6 := Aside0.mk hG6; have HK6 := Aside0.mk hK6; clear hT6 hG6 hK6))
      have hj64 : ∀ z : Int, z = 1 → wrap64 ((j : Int) + z) = ((j + 1 : Nat) : Int) := fun z hz => by rw [hz, w64_in _ (by have := HML.out; omega)]; omega
      have hK5 : KeptS S' w w5 := HKp.out.trans (Grows.refl _ _) (KeptS.below HB5.out)
      have hG7 : Grows S' S6 w := ⟨HG6.out.1, fun i hi => (HG6.out.2 i hi).imp id fun h => Nat.le_trans hK5.size h⟩
      have HK7 := Aside0.mk (hK5.trans hG7 HK6.out)
      have HG7 := Aside0.mk (HGr.out.trans (Nat.le_refl _) hG7)
      have HLR7 := Aside0.mk ((HLR.out.step (Grows.refl _ _) (KeptS.below HB5.out)).step HG6.out HK6.out)
      clear hK5 hG7
      go_roundg (M.length - (j + 1))
      case measure =>
        clear hj64
        omega
      case rel =>
        have hv := hj64 1 rfl
        have hj2 : j + 1 + (M.length - (j + 1)) = M.length := by clear hv hj64; omega
        exact ⟨j + 1, vh6, rv6, S6, hj2, by first | rfl | exact congrArg (Value.int .i64) hv, ⟨by have h1 := HT6.out; rwa [show ((j : Int) + 1) = ((j + 1 : Nat) : Int) by omega] at h1⟩, HLR7, HG7, HK7⟩
    · obtain rfl : j = M.length := by omega
      go_wp2
      go_end0
      first | exact ⟨_, _, _, S', rfl, HT.out, HGr.out, HKp.out⟩ | exact ⟨_, _, _, S', HT.out, HGr.out, HKp.out⟩
end Go.Proofs.YtfhcpniibiobgaaDoor.Qf
