/- Several texts, joined. -/
import Derived.Test.YtfhcpniibiobgaaDoorJx
import Derived.Test.YtfhcpniibiobgaaDoorJp
namespace Go.Proofs.YtfhcpniibiobgaaDoor.Qe
open Go.Proofs.YtfhcpniibiobgaaDoor.Qf
open Go.RowKit Go.Proofs.YtfhcpniibiobgaaDoorW.PrintWords Go.Proofs.YtfhcpniibiobgaaDoorW.PrintLast Go.Proofs.YtfhcpniibiobgaaDoorW.PrintMore
open Hs (CB CL at_L at_B infoB infoL R_of_blk)
open Go.Proofs.YtfhcpniibiobgaaDoor.Pure (hcF hcF_len toyHC chB)
theorem u64_nat (x : Int) : ∃ y : Nat, IntKind.u64.wrap x = (y : Int) ∧ y < 18446744073709551616 := by
  refine ⟨(x % 18446744073709551616).toNat, ?_, by omega⟩
  show x % 18446744073709551616 = _
  omega
theorem and_nat (x : Nat) (y : Int) (hx : x < 18446744073709551616) : ∃ z : Nat, Go.bits .and .u64 (x : Int) (IntKind.u64.wrap y) = (z : Int) ∧ z < 18446744073709551616 := by
  obtain ⟨m, hm, hlt⟩ := u64_nat y
  exact ⟨x &&& m, by rw [hm]; exact bits_and_u64_nat x m hx hlt, Nat.lt_of_le_of_lt Nat.and_le_left hx⟩
theorem w64_is (n : Int) : IntKind.i64.wrap n = wrap64 n := by
  unfold wrap64 IntKind.wrap
  simp [IntKind.bits, IntKind.signed]
  omega
theorem tz_some (z : Nat) (hz : z < 18446744073709551616) : bits_TrailingZeros64.f (z : Int) = some ((Lib.ctz 64 z : Nat) : Int) := by
  unfold bits_TrailingZeros64.f
  rw [if_pos (by omega), if_pos (by omega), Int.toNat_natCast]
theorem vis_ne (g : Nat) (W : World) : (binOp .neq 152 (.func (.func 56) #[] #[.pointer (some ⟨g, 0, none⟩)]) .nilFunc).run Tryd.prog W = .ok (.bool true) W := by kernel_rfl
set_option maxHeartbeats 4000000 in
set_option maxRecDepth 100000 in
theorem getRoot_calls (a0 a1 a2 a3 a4 a5 : Int) (gr gf e : Nat) (A : Option Addr) (c m : Nat) (hs : List (List Int)) (r : List Int) (w0 w : World) (vs : Value) (hm : hs.length = m + 1) (hm2 : m ≤ 1000) (he : e < 18446744073709551616) (HG_ : Glob w0) (hrow : ∀ h ∈ hs, h.length ≤ 3000000000)
    (hf : w0.heap[gf]? = some (facObj a0 a1 a2 a3 a4 a5)) (hr : w0.heap[gr]? = some (rangeObj gf 0 (e : Int) A hs.length c)) (hl : CL w0 A hs) (hsn : Seen w0 w 0 vs) (h : chB a0 a2 a5 (hs.take m).reverse (hs.getD m []) = r) :
    Calls Tryd.prog 55 #[.pointer (some ⟨gr, 0, none⟩), .func (.func 56) #[] #[.pointer (some ⟨w0.heap.size, 0, none⟩)]] w fun en w' => ∃ A' c' n v', en = .returned (.tuple #[.slice A' r.length c', .nilIface]) ∧ r.length ≤ c' ∧ r.length ≤ 3000000000 + 3000000009 * m ∧ CB w' A' r ∧ Seen w0 w' n v' := by
  have hgd : ∀ k, (hs.getD k []).length ≤ 3000000000 := fun k => by
    rw [List.getD_eq_getElem?_getD]
    rcases h : hs[k]? with _ | y
    · simp
    · exact hrow y (List.mem_of_getElem? h)
  have HG := aq HG_
  have HF := aq hf
  have HR := aq hr
  have HL := aq hl
  have HS := aq hsn
  have HH := aq h
  have HGD := aq hgd
  clear HG_ hf hr hl h hsn hgd hrow
  have g0 : ((0 : Int) != 0) = false := by simp
  have g1 : ((hs.length : Int) == 0) = false := beq_eq_false_iff_ne.2 (by omega)
  have g1n : (hs.length == 0) = false := beq_eq_false_iff_ne.2 (by omega)
  have hw1 : ∀ z : Int, z = 1 → wrap64 ((hs.length : Int) - z) = (m : Int) := fun z hz => by rw [hz, w64_in _ (by omega)]; omega
  have hw2 : ∀ z : Int, z = 2 → wrap64 ((hs.length : Int) - z) = (m : Int) - 1 := fun z hz => by rw [hz, w64_in _ (by omega)]; omega
  have k0 : w.cell? ⟨gr, 0, none⟩ = some (.pointer (some ⟨gf, 0, none⟩)) := (blk_cell (blk_below HR.out HS.out.below) 0).trans rfl
  have k1 : w.cell? ⟨gr, 1, none⟩ = some (.int .u64 0) := (blk_cell (blk_below HR.out HS.out.below) 1).trans rfl
  have k2 : w.cell? ⟨gr, 2, none⟩ = some (.int .u64 (e : Int)) := (blk_cell (blk_below HR.out HS.out.below) 2).trans rfl
  have k3 : w.cell? ⟨gr, 3, none⟩ = some (.slice A hs.length c) := (blk_cell (blk_below HR.out HS.out.below) 3).trans rfl
  obtain ⟨ad, Al, cl, ead, hcell, hll, hCl⟩ := at_L (Kd.C_below HL.out HS.out.below) m (by omega)
  cases ead
  have p0 : (0 : Int) ≤ (m : Int) := by omega
  have p1 : (m : Int) < (hs.length : Int) := by omega
  have HLl := aq hll
  obtain ⟨_, Al', cl', e1, hcell', _, hCl0⟩ := at_L HL.out m (by omega)
  have hsame : (Value.slice Al (hs.getD m []).length cl) = .slice Al' (hs.getD m []).length cl' := by
    cases e1
    have := pw_cell_below HS.out.below hcell'
    rw [hcell] at this
    exact Option.some.inj this
  obtain ⟨rfl, rfl⟩ : Al = Al' ∧ cl = cl' := by injection hsame with x1 x2 x3; exact ⟨x1, x3⟩
  have HA0 := aq (Apart.old HS.out hCl0)
  clear hCl hll hCl0 hcell' hsame e1
  have HM := aq hm
  have HGm := HGD.out m
  clear hm
  generalize hs.getD m [] = s0 at hcell HLl HA0 HH HGm
  go_enter Tryd.func55, Tryd.ntmps55
  go_wp2
  go_region_held3 (fun w' => w'.cell? ⟨gr, 2, none⟩ = some (.int .u64 (e : Int)) ∧ Below w.heap.size w w')
    (((try dsimp only); (try go_split_ands); (repeat' apply And.intro) <;> first | (go_keep; done) | exact below_drew (Below.refl _ _)))
    (fail)
  have hb0 : Below w.heap.size w w.drew := below_drew (Below.refl _ _)
  have HSz := aq (Seen.step HS.out hb0)
  have HAz := aq (Apart.step HA0.out hb0)
  have hwi : IntKind.i64.wrap ((hs.length : Int) - 2) = (m : Int) - 1 := (w64_is _).trans (hw2 2 rfl)
  go_wp2
  (try simp only [Act.put, List.setIfInBounds_toArray, List.set_cons_zero, List.set_cons_succ])
  go_loopg [7, 8, 9, 10, 11] m (fun kq v7 v8 v9 _v10 _v11 wr => ∃ (j sz : Nat) (s' : List Int) (A' : Option Addr) (c' : Nat) (vs' : Value), j = kq ∧ j ≤ m ∧ v7 = .slice A' s'.length c' ∧ v8 = .int .i64 ((j : Int) - 1) ∧ v9 = .int .u64 (sz : Int) ∧ sz < 18446744073709551616 ∧ Aside0 (s'.length ≤ c') ∧ Aside0 (s'.length ≤ 3000000000 + 3000000009 * (m - j)) ∧ Aside0 (Apart w0 wr vs' A' s') ∧ Aside0 (Seen w0 wr (m - j) vs') ∧ Aside0 (chB a0 a2 a5 (hs.take j).reverse s' = r))
  case atStart => exact ⟨m, e, s0, Al, cl, vs, rfl, Nat.le_refl _, rfl, by rw [hwi], rfl, he, HLl, ⟨by omega⟩, HAz, ⟨by rw [Nat.sub_self]; exact HSz.out⟩, HH⟩
  case round =>
    clear HSz HAz HH hb0 hwi hcell k0 k1 k2 k3 HLl HA0 HS hw1 hw2
    obtain ⟨j, sz, s', A', c', vs', hjk, hkm, rfl, rfl, rfl, hsz, HSC, HSL, HAp, HS, HC⟩ := hrel
    rcases j with _ | k
    · have hc0 := HC.out
      rw [List.take_zero, List.reverse_nil, chB] at hc0
      subst hc0
      rw [show (((0 : Nat) : Int) - 1) = -1 by omega]
      go_wp2
      go_ret2
      exact ⟨_, _, _, _, rfl, HSC.out, HSL.out, HAp.out.bytes, HS.out⟩
    · rw [show (((k + 1 : Nat) : Int) - 1) = (k : Int) by omega]
      rename World => wr
      have hkl : k < hs.length := by have := HM.out; omega
      have q0 : (0 : Int) ≤ (k : Int) := by omega
      have q1 : (k : Int) < (hs.length : Int) := by omega
      have q2 : decide ((0 : Int) ≤ (k : Int)) = true := decide_eq_true q0
      have hw3 : ∀ z : Int, z = 1 → wrap64 ((k : Int) - z) = (k : Int) - 1 := fun z hz => by rw [hz]; exact w64_in _ (by omega)
      have k0 : wr.cell? ⟨gr, 0, none⟩ = some (.pointer (some ⟨gf, 0, none⟩)) := (blk_cell (blk_below HR.out HS.out.below) 0).trans rfl
      have k3 : wr.cell? ⟨gr, 3, none⟩ = some (.slice (some ad) hs.length c) := (blk_cell (blk_below HR.out HS.out.below) 3).trans rfl
      have kf : wr.cell? ⟨gf, 0, none⟩ = some (.func (.func 53) #[.agg #[.int .i64 a0, .int .i64 a1, .int .i64 a2, .int .u64 a3, .int .u64 a4, .int .u64 a5]] #[]) := (blk_cell (blk_below HF.out HS.out.below) 0).trans rfl
      obtain ⟨ad2, Ah, ch, ead2, hx, hlh, hCh⟩ := at_L (Kd.C_below HL.out HS.out.below) k hkl
      cases ead2
      have hc0 := HC.out
      have htk : (hs.take (k + 1)).reverse = hs.getD k [] :: (hs.take k).reverse := by
        rw [List.take_succ_eq_append_getElem hkl, List.reverse_append, List.getD_eq_getElem?_getD, List.getElem?_eq_getElem hkl]
        rfl
      rw [htk, chB] at hc0
      have HGk := HGD.out k
      generalize hs.getD k [] = hsh at hx hlh hCh hc0 HGk
      have HCh := aq hCh
      have HLh := aq hlh
      have HSL2 := aq (hcF_len a0 a2 a5 hsh s')
      have HT := aq (toyHC a0 a1 a2 a3 a4 a5 hsh s' (by omega) (by have := HSL.out; omega))
      have HC2 := aq hc0
      obtain ⟨z, hz, hz64⟩ := and_nat sz ((sz : Int) - 1) hsz
      have HTZ := aq (tz_some z hz64)
      clear hCh hlh hc0 htk HC
      go_wp2
      go_region_held3 (fun w' => w'.cell? ⟨gr, 0, none⟩ = some (.pointer (some ⟨gf, 0, none⟩)) ∧ w'.cell? ⟨gr, 3, none⟩ = some (.slice (some ad) hs.length c) ∧ w'.cell? ⟨gf, 0, none⟩ = some (.func (.func 53) #[.agg #[.int .i64 a0, .int .i64 a1, .int .i64 a2, .int .u64 a3, .int .u64 a4, .int .u64 a5]] #[]) ∧ w'.cell? (ad.add k) = some (.slice Ah hsh.length ch) ∧ Below wr.heap.size wr w')
        (((try dsimp only); (try go_split_ands); (repeat' apply And.intro) <;> first | (go_keep; done) | exact below_drew (Below.refl _ _) | (refine pw_cell_below hb ?_; assumption) | (refine below_then ?_ ?_ hb; assumption; exact Below.size (by assumption))))
        ((go_at_call 53; have hB0 := aq (show Below wr.heap.size wr _ by go_split_ands; assumption); refine (impl_toy_HashChildren.calls a0 a1 a2 a3 a4 a5 Ah ch hsh A' c' s' (hcF a0 a2 a5 hsh s') _ (Kd.C_below HCh.out hB0.out) HLh.out (Kd.C_below HAp.out.bytes hB0.out) HSC.out HT.out).mono ?_; rintro e w3 ⟨v3, rfl, hR3, hb⟩))
      obtain ⟨A3, c3, rfl, hl3, hC3⟩ := Kd.R_reads hR3
      have HS1 := Seen.step HS.out hB0.out
      have HA3 := aq (Apart.new HS1 hR3)
      have HS3 := aq (Seen.step HS1 hb)
      have HL3 := aq hl3
      have HG3 := aq (Glob.below HG.out HS3.out.below)
      have hsl : (hcF a0 a2 a5 hsh s').length ≤ 140737488351232 := by have := HSL.out; have := HSL2.out; omega
      have HSLn : Aside0 ((hcF a0 a2 a5 hsh s').length ≤ 3000000000 + 3000000009 * (m - k)) := ⟨by have := HSL.out; have := HSL2.out; omega⟩
      generalize hcF a0 a2 a5 hsh s' = s2 at HA3 HL3 hsl HC2 HSLn hC3 hR3 ⊢
      clear hR3 hC3 hl3 HS1 hb HT HSL2 hB0 HS HAp HCh HLh
      go_split_ands
      have hne := vis_ne w0.heap.size
      go_wp2_with (first
        | (go_at_call 89; (with_reducible refine (bits_TrailingZeros64.calls _ _ _ HG3.out HTZ.out).mono ?_); rintro e w4 ⟨rfl, hd⟩; have HS3 := aq (Seen.step HS3.out hd.below); have HA3 := aq (Apart.step HA3.out hd.below); clear hd)
        | (go_at_call 90; (with_reducible refine (compact_NewNodeID.calls _ _ _ _ _ rfl).mono ?_); rintro e w5 ⟨rfl, hb⟩; have HS3 := aq (Seen.step HS3.out hb); have HA3 := aq (Apart.step HA3.out hb); clear hb)
        | (go_at_call 56; (with_reducible refine (visit_seen _ _ A3 c3 s2 HS3.out HA3.out hsl (by omega)).mono ?_); rintro e w6 ⟨v0, v', rfl, hS6, hA6, hsz6⟩; have HS6 := aq hS6; have HA6 := aq hA6; clear hS6 hA6))
      go_roundg k
      case measure => omega
      case rel => exact ⟨k, z, s2, A3, c3, v', rfl, by omega, rfl, by go_num, rfl, hz64, HL3, HSLn, HA6, ⟨by have := HS6.out; rwa [show m - (k + 1) + 1 = m - k by omega] at this⟩, HC2⟩
end Go.Proofs.YtfhcpniibiobgaaDoor.Qe
namespace Go.Proofs.YtfhcpniibiobgaaDoor.Qe
open Go.Proofs.YtfhcpniibiobgaaDoor.Qf
open Go.RowKit Go.Proofs.YtfhcpniibiobgaaDoorW.PrintWords Go.Proofs.YtfhcpniibiobgaaDoorW.PrintLast Go.Proofs.YtfhcpniibiobgaaDoorW.PrintMore
open Hs (CB CL at_L at_B infoB infoL R_of_blk)
open Go.Proofs.YtfhcpniibiobgaaDoor.Pure (hcF hcF_len toyHC chB)
theorem mf1 (first : Value) (W : World) : (Instr.makeFunc (.func 53) #[first] #[]).run Tryd.prog W = .ok (.func (.func 53) #[first] #[]) W := rfl
theorem mf2 (cap : Value) (W : World) : (Instr.makeFunc (.func 56) #[] #[cap]).run Tryd.prog W = .ok (.func (.func 56) #[] #[cap]) W := rfl
set_option maxHeartbeats 4000000 in
set_option maxRecDepth 100000 in
theorem rootHash_calls (a0 a1 a2 a3 a4 a5 : Int) (e : Nat) (A : Option Addr) (c m : Nat) (hs : List (List Int)) (r : List Int) (w : World) (hm : hs.length = m + 1) (hm2 : m ≤ 1000) (hc : hs.length ≤ c) (he : e < 18446744073709551616) (HG_ : Glob w) (hrow : ∀ h ∈ hs, h.length ≤ 3000000000) (hl : CL w A hs) (k : Nat) (htx : impl_texts.f k hs = some hs) (hsz : compact_RangeSize.f ((0 : Nat) : Int) (e : Int) = some (hs.length : Int)) (h : chB a0 a2 a5 (hs.take m).reverse (hs.getD m []) = r) :
    Calls Tryd.prog 21 #[.agg #[.int .i64 a0, .int .i64 a1, .int .i64 a2, .int .u64 a3, .int .u64 a4, .int .u64 a5], .agg #[.int .u64 0, .int .u64 (e : Int), .slice A hs.length c]] w fun en w' => ∃ A' c' v, en = .returned (.tuple #[.slice A' r.length c', v, .bool true]) ∧ r.length ≤ c' ∧ CB w' A' r ∧ Below w.heap.size w w' := by
  have HG := aq HG_
  have HL := aq hl
  have HH := aq h
  have HTX := aq htx
  have HSZ := aq hsz
  have HRW := aq hrow
  have HM := aq hm
  clear HG_ hl h htx hsz hrow hm
  have hmf1 := mf1
  have hmf2 := mf2
  have HB1 : Aside0 (Below w.heap.size w (((w.alloc (.cells #[.int .i64 a0, .int .i64 a1, .int .i64 a2, .int .u64 a3, .int .u64 a4, .int .u64 a5] 24)).alloc (.cells #[.int .u64 0, .int .u64 (e : Int), .slice A hs.length c] 35)).alloc (.cells #[.func (.func 53) #[.agg #[.int .i64 a0, .int .i64 a1, .int .i64 a2, .int .u64 a3, .int .u64 a4, .int .u64 a5]] #[]] 100))) := ⟨below_alloc (below_alloc (below_alloc (Below.refl _ _) _) _) _⟩
  have RB : Aside0 ((((w.alloc (.cells #[.int .i64 a0, .int .i64 a1, .int .i64 a2, .int .u64 a3, .int .u64 a4, .int .u64 a5] 24)).alloc (.cells #[.int .u64 0, .int .u64 (e : Int), .slice A hs.length c] 35)).alloc (.cells #[.func (.func 53) #[.agg #[.int .i64 a0, .int .i64 a1, .int .i64 a2, .int .u64 a3, .int .u64 a4, .int .u64 a5]] #[]] 100)).heap[w.heap.size + 1]? = some (.cells #[.int .u64 0, .int .u64 (e : Int), .slice A hs.length c] 35 (0, 0))) := ⟨by
    have h1 := blk_below (heap_alloc_new (w.alloc (.cells #[.int .i64 a0, .int .i64 a1, .int .i64 a2, .int .u64 a3, .int .u64 a4, .int .u64 a5] 24)) (.cells #[.int .u64 0, .int .u64 (e : Int), .slice A hs.length c] 35)) (below_alloc (Below.refl _ _) (.cells #[.func (.func 53) #[.agg #[.int .i64 a0, .int .i64 a1, .int .i64 a2, .int .u64 a3, .int .u64 a4, .int .u64 a5]] #[]] 100))
    simpa using h1⟩
  have FB : Aside0 ((((w.alloc (.cells #[.int .i64 a0, .int .i64 a1, .int .i64 a2, .int .u64 a3, .int .u64 a4, .int .u64 a5] 24)).alloc (.cells #[.int .u64 0, .int .u64 (e : Int), .slice A hs.length c] 35)).alloc (.cells #[.func (.func 53) #[.agg #[.int .i64 a0, .int .i64 a1, .int .i64 a2, .int .u64 a3, .int .u64 a4, .int .u64 a5]] #[]] 100)).heap[w.heap.size + 1 + 1]? = some (facObj a0 a1 a2 a3 a4 a5)) := ⟨by
    have h1 := heap_alloc_new ((w.alloc (.cells #[.int .i64 a0, .int .i64 a1, .int .i64 a2, .int .u64 a3, .int .u64 a4, .int .u64 a5] 24)).alloc (.cells #[.int .u64 0, .int .u64 (e : Int), .slice A hs.length c] 35)) (.cells #[.func (.func 53) #[.agg #[.int .i64 a0, .int .i64 a1, .int .i64 a2, .int .u64 a3, .int .u64 a4, .int .u64 a5]] #[]] 100)
    simpa using h1⟩
  go_enter Tryd.func21, Tryd.ntmps21
  go_wp2
  generalize (((w.alloc (.cells #[.int .i64 a0, .int .i64 a1, .int .i64 a2, .int .u64 a3, .int .u64 a4, .int .u64 a5] 24)).alloc (.cells #[.int .u64 0, .int .u64 (e : Int), .slice A hs.length c] 35)).alloc (.cells #[.func (.func 53) #[.agg #[.int .i64 a0, .int .i64 a1, .int .i64 a2, .int .u64 a3, .int .u64 a4, .int .u64 a5]] #[]] 100)) = W1 at HB1 RB FB ⊢
  have HL1 := aq (Kd.C_below HL.out HB1.out)
  have r0 : W1.cell? ⟨w.heap.size + 1, 0, none⟩ = some (.int .u64 0) := bc RB 0
  have r1 : W1.cell? ⟨w.heap.size + 1, 1, none⟩ = some (.int .u64 (e : Int)) := bc RB 1
  have r2 : W1.cell? ⟨w.heap.size + 1, 2, none⟩ = some (.slice A hs.length c) := bc RB 2
  go_region_held3 (fun w' => w'.cell? ⟨w.heap.size + 1, 0, none⟩ = some (.int .u64 0) ∧ w'.cell? ⟨w.heap.size + 1, 1, none⟩ = some (.int .u64 (e : Int)) ∧ w'.cell? ⟨w.heap.size + 1, 2, none⟩ = some (.slice A hs.length c) ∧ Below W1.heap.size W1 w')
    (((try dsimp only); (try go_split_ands); (repeat' apply And.intro) <;> first | (go_keep; done) | exact below_drew (Below.refl _ _) | (refine pw_cell_below hb ?_; assumption) | (refine below_then ?_ ?_ hb; assumption; exact Below.size (by assumption))))
    (first
      | (go_at_call 48; have hB0 := aq (show Below W1.heap.size W1 _ by go_split_ands; assumption); refine (impl_texts.calls k A c hs hs _ (Kd.C_below HL1.out hB0.out) hc HTX.out).mono ?_; rintro e' w2 ⟨v1, rfl, hS, hb⟩; obtain ⟨B2, d2, rfl, hd2, hC⟩ := Kd.S_reads hS; have HC2 := aq hC; have HD2 := aq hd2; clear hS hC hd2)
      | (go_at_call 54; refine (newRange_calls (w.heap.size + 1 + 1) 0 e B2 hs.length d2 (Nat.zero_le _) HSZ.out _).mono ?_; rintro e' w3 ⟨g, rfl, hg1, hg2, hg3, hb⟩; have HG3 := aq hg3; have HC3 := aq (Kd.C_below HC2.out hb); clear hg3))
  go_split_ands
  have hB3 : Below W1.heap.size W1 w3 := by assumption
  have HB3 := aq (below_then HB1.out HB1.out.size hB3)
  have FB3 := aq (blk_below FB.out hB3)
  go_wp2_with (first
    | (go_at_call 55; refine (getRoot_calls a0 a1 a2 a3 a4 a5 g (w.heap.size + 1 + 1) e B2 d2 m hs r w3 _ (.slice none 0 0) HM.out hm2 he (Glob.below HG.out HB3.out) HRW.out FB3.out HG3.out HC3.out ⟨below_alloc (Below.refl _ _) _, heap_alloc_new _ _, Kd.R_nil _ _ _ _ _⟩ HH.out).mono ?_; rintro e4 w4 ⟨A4, c4, n4, v4, rfl, hl4, hl5, hC4, hS4⟩; have HC4 := aq hC4; have HS4 := aq hS4; have HL4 := aq hl4; have HL5 := aq hl5; clear hC4 hS4 hl4 hl5))
  have HB4 := aq (below_then HB3.out HB3.out.size HS4.out.below)
  have HB5 := aq (below_drew1 HB4.out)
  have SK : Aside0 (w4.drew.heap[w3.heap.size]? = some (.cells #[v4] 37 (0, 0))) := ⟨blk_drew HS4.out.cell⟩
  have HC5 := aq (Kd.C_below HC4.out (below_drew (Below.refl w4.heap.size w4)))
  refine start_ (n := 6) (S := fun w' => w'.cell? ⟨w3.heap.size, 0, none⟩ = some v4) (ds := []) #[false, false, false, false, false, false] (by kernel_rfl) rfl rfl (cell_of_one SK.out) (fun hHeld => ?_)
  generalize w4.drew = wz at HB5 SK HC5 hHeld ⊢
  refine pu 0 39 ?_
  refine ta 2 41 hHeld ?_
  refine on1 1 40 fun K hK => ?_
  refine Kd.R_append_rows_step (Kd.int .u8) (w0 := w) w.heap.size rfl (.const (.slice none 0 0)) (.tmp 39) 28 5 (.int .u8 0) 1 rfl Tryd.underlying28 infoB rfl (by decide) (by omega) (.slice none 0 0) [] r A4 r.length c4 (fun _ => True) (fun _ => False) rfl rfl (Kd.R_nil _ _ _ _ _) HC5.out (fun _ _ h => h) (fun _ h => h.elim) (fun _ _ => trivial) HB5.out (below_size HB5.out) (by have := HL5.out; simp; omega) ?_
  intro v6 w6 hR6 hB6 hG6 hA6
  refine hK.out _ _ (cell_of_one ((hG6.block _ (lt_of_block SK.out) (by simp [Value.ownBlock])).trans SK.out)) (fun hHeld => ?_)
  rw [List.nil_append] at hR6
  obtain ⟨A6, c6, rfl, hl6, hC6⟩ := Kd.R_reads hR6
  have HC6 := aq hC6
  have HB6 := aq hB6
  have HL6 := aq hl6
  clear hK K hG6 hA6 hR6 hC6 hB6 hl6
  refine nm ?_
  refine pu 3 4 ?_
  refine pu 4 5 ?_
  refine pu 5 6 ?_
  refine done_ (by kernel_rfl) ?_
  try go_wp2
  go_ret3
  exact ⟨_, _, _, rfl, HL6.out, HC6.out, HB6.out⟩
end Go.Proofs.YtfhcpniibiobgaaDoor.Qe
