/- testonly's appendImpl, walked (printed by gen_nc.py). -/
import Derived.Test.YtfhcpniibiobgaaDoorNb
namespace Go.Proofs.YtfhcpniibiobgaaDoor.Qf
open Go.RowKit Go.Proofs.YtfhcpniibiobgaaDoorW.PrintWords Go.Proofs.YtfhcpniibiobgaaDoorW.PrintLast Go.Proofs.YtfhcpniibiobgaaDoorW.PrintMore
open Hs (CB CL at_L at_B infoB infoL R_of_blk)

theorem w64_in (n : Int) (h : -9223372036854775808 ≤ n ∧ n ≤ 9223372036854775807) : wrap64 n = n := by unfold wrap64; omega
theorem w64_is (n : Int) : IntKind.i64.wrap n = wrap64 n := by
  unfold wrap64 IntKind.wrap
  simp [IntKind.bits, IntKind.signed]
  omega
theorem store_step {P : Program} {ops : Array Oper} {o : Oper} {a : Act} {Q : Exit → Act → World → Prop} {Kc : Act → World → Prop} {W w1 : World} (hw : Region.wanted o (yielded ops a.tmps) = true) (hrun : (execOp a.eval o).run P W = .ok .skip w1) (h : Kc (a.put o.dst undef) w1) : if Region.wanted o (yielded ops a.tmps) = true then Oper.wp P o a W Kc Q else Kc (a.put o.dst undef) W := by
  rw [if_pos hw]
  unfold Oper.wp
  rw [hrun]
  exact h
theorem infoRR : (Tryd.prog.info? 25).map (fun i => (i.zero, i.size, i.bytes)) = some (some (.slice none 0 0), 1, 24) := by kernel_rfl
/-- A value of our hash function, as an interface holds it. -/
abbrev toyV (a0 a1 a2 a3 a4 a5 : Int) : Value := .iface 90 (.agg #[.int .i64 a0, .int .i64 a1, .int .i64 a2, .int .u64 a3, .int .u64 a4, .int .u64 a5])
theorem meth_hc (a0 a1 a2 a3 a4 a5 : Int) (W : World) : (method 304 90 (.agg #[.int .i64 a0, .int .i64 a1, .int .i64 a2, .int .u64 a3, .int .u64 a4, .int .u64 a5]) "HashChildren").run Tryd.prog W = .ok (53, .agg #[.int .i64 a0, .int .i64 a1, .int .i64 a2, .int .u64 a3, .int .u64 a4, .int .u64 a5]) W := by kernel_rfl
/-- The rows, the first j of them one hash longer. -/
def upR (rows : List (List (List Int))) (sj : Nat → List Int) : Nat → List (List (List Int))
  | 0 => rows
  | j + 1 => (upR rows sj j).set j ((upR rows sj j).getD j [] ++ [sj j])
theorem upR_len (rows : List (List (List Int))) (sj : Nat → List Int) : ∀ j, (upR rows sj j).length = rows.length
  | 0 => rfl
  | j + 1 => by rw [upR, List.length_set, upR_len rows sj j]
theorem upR_hi (rows : List (List (List Int))) (sj : Nat → List Int) : ∀ j i, j ≤ i → (upR rows sj j).getD i [] = rows.getD i []
  | 0, i, _ => rfl
  | j + 1, i, h => by rw [upR, getD_set_ne _ _ _ _ _ (by omega), upR_hi rows sj j i (by omega)]
/-- The rows with one leaf more, whose merges go up to level m. -/
def upT (rows : List (List (List Int))) (sj : Nat → List Int) (m : Nat) : List (List (List Int)) :=
  if m = rows.length then upR rows sj m ++ [[sj m]] else (upR rows sj m).set m (rows.getD m [] ++ [sj m])
theorem TSt.rowv {T : Value} {w0 : World} {gt : Nat} {S : Nat → Prop} {w : World} {n : Int} {vh : Value} {ro rv : List RV} {rows : List (List (List Int))} (h : TSt T w0 gt S w n vh ro rv rows) (i : Nat) (hi : i < rows.length) : ∃ A c, rv.getD i z0 = (A, (rows.getD i []).length, c) ∧ (rows.getD i []).length ≤ c := by
  obtain ⟨A, c, e, hl, _⟩ := Kd.R_reads (h.row i hi).row
  rcases hx : rv.getD i z0 with ⟨x1, x2, x3⟩
  rw [hx] at e
  injection e with e1 e2 e3
  obtain rfl : x1 = A := e1
  obtain rfl : x2 = (rows.getD i []).length := e2
  obtain rfl : x3 = c := e3
  exact ⟨_, _, rfl, hl⟩
set_option maxHeartbeats 4000000 in
set_option maxRecDepth 100000 in
theorem tAppend_calls (a0 a1 a2 a3 a4 a5 : Int) (w0 : World) (gt : Nat) (S : Nat → Prop) (w : World) (n : Nat) (vh : Value) (rv : List RV) (rows : List (List (List Int))) (As : Option Addr) (cs : Nat) (sj : Nat → List Int) (m : Nat)
    (h : TSt (toyV a0 a1 a2 a3 a4 a5) w0 gt S w (n : Int) vh rv rv rows) (hs : Safe S w As (sj 0)) (hsc : (sj 0).length ≤ cs) (hn : n + 1 < 18446744073709551616) (hm : m ≤ rows.length) (hrl : rows.length ≤ 100) (hm64 : m < 64) (hlen : ∀ i, i < rows.length → (rows.getD i []).length ≤ 100000)
    (hbits : ∀ i, i < m → n / 2 ^ i % 2 = 1) (hbit : n / 2 ^ m % 2 = 0) (hne : ∀ i, i < m → 0 < (rows.getD i []).length) (hH : ∀ i, i < m → impl_toy_HashChildren.f a0 a1 a2 a3 a4 a5 ((rows.getD i []).getD ((rows.getD i []).length - 1) []) (sj i) = some (sj (i + 1))) :
    Calls Tryd.prog 84 #[.pointer (some ⟨gt, 0, none⟩), .slice As (sj 0).length cs] w fun en w' => ∃ v0 vh' rv' S', en = .returned v0 ∧ TSt (toyV a0 a1 a2 a3 a4 a5) w0 gt S' w' ((n : Int) + 1) vh' rv' rv' (upT rows sj m) ∧ Grows S S' w ∧ KeptS S' w w' := by
  have HT := Aside0.mk h
  have HS := Aside0.mk hs
  have HLN := Aside0.mk hlen
  have HBI := Aside0.mk hbits
  have HBM := Aside0.mk hbit
  have HNE := Aside0.mk hne
  have HH := Aside0.mk hH
  have HN := Aside0.mk hn
  have HM := Aside0.mk hm
  have HM64 := Aside0.mk hm64
  have HRL := Aside0.mk hrl
  have HSC := Aside0.mk hsc
  clear h hs hlen hbits hbit hne hH hn hm hm64 hrl hsc
  have hmt := meth_hc a0 a1 a2 a3 a4 a5
  have hbt : ∀ j : Nat, j ≤ m → (Go.bits .and .u64 ((n : Int) / 2 ^ min j 64) 1 == 1) = decide (n / 2 ^ j % 2 = 1) := fun j hj => by
    have h1 := HM64.out
    have h2 := HN.out
    rw [show min j 64 = j by omega, show (n : Int) / 2 ^ j = ((n / 2 ^ j : Nat) : Int) by push_cast; rfl, show (1 : Int) = ((1 : Nat) : Int) from rfl, bits_and_u64_nat _ 1 (Nat.lt_of_le_of_lt (Nat.div_le_self _ _) (by omega)) (by omega), Nat.and_one_is_mod]
    by_cases h : n / 2 ^ j % 2 = 1
    · rw [decide_eq_true h, h]
      rfl
    · rw [decide_eq_false h, show n / 2 ^ j % 2 = 0 by omega]
      rfl
  have HBT := Aside0.mk hbt
  clear hbt
  go_enter Tryd.func84, Tryd.ntmps84
  go_wp2_with fail
  (try simp only [Act.put, List.setIfInBounds_toArray, List.set_cons_zero, List.set_cons_succ])
  go_loopg [1, 4] m (fun kq v1 v4 wr => ∃ (j : Nat) (A' : Option Addr) (c' : Nat) (rv' : List RV) (S' : Nat → Prop), j + kq = m ∧ v1 = .slice A' (sj j).length c' ∧ v4 = .int .i64 (j : Nat) ∧ Aside0 ((sj j).length ≤ c') ∧ Aside0 (TSt (toyV a0 a1 a2 a3 a4 a5) w0 gt S' wr (n : Int) vh rv' rv' (upR rows sj j)) ∧ Aside0 (Safe S' wr A' (sj j)) ∧ Aside0 (Grows S S' w) ∧ Aside0 (KeptS S' w wr))
  case atStart => exact ⟨0, As, cs, rv, S, by omega, rfl, rfl, HSC, HT, HS, ⟨Grows.refl _ _⟩, ⟨KeptS.refl _ _⟩⟩
  case round =>
    clear HT HS HSC
    obtain ⟨j, A', c', rv', S', hjm, rfl, rfl, HSC, HT, HS, HGr, HKp⟩ := hrel
    rename World => wr
    have q0 : (0 : Int) ≤ (j : Int) := by omega
    have k0 : wr.cell? ⟨gt, 0, none⟩ = some (toyV a0 a1 a2 a3 a4 a5) := (blk_cell HT.out.obj 0).trans rfl
    have k1 : wr.cell? ⟨gt, 1, none⟩ = some (.int .u64 (n : Int)) := (blk_cell HT.out.obj 1).trans rfl
    have k2 : wr.cell? ⟨gt, 2, none⟩ = some vh := (blk_cell HT.out.obj 2).trans rfl
    have HLU := upR_len rows sj j
    by_cases hlt : j < m
    · have HJM := Aside0.mk hjm
      have hb1 : (Go.bits .and .u64 ((n : Int) / 2 ^ min j 64) 1 == 1) = true := by rw [HBT.out j (by omega), decide_eq_true (HBI.out j hlt)]
      have hju : j < (upR rows sj j).length := by rw [HLU]; have := HM.out; omega
      obtain ⟨go, cap, hvh, hcap⟩ := HT.out.form (by omega)
      rw [HLU] at hvh hcap
      subst hvh
      obtain ⟨Ar, cr, hrv, hcr⟩ := HT.out.rowv j hju
      have hcell := (HT.out.cells HLU j (by rw [← HLU]; exact hju)).1
      rw [hrv] at hcell
      rw [upR_hi rows sj j j (Nat.le_refl _)] at hcell hcr hrv
      have hju2 : (j : Int) < (rows.length : Int) := by omega
      have HROW := Aside0.mk (HT.out.row j hju)
      have HLj := Aside0.mk (HLN.out j (by have := HM.out; omega))
      have hrw0 := HROW.out
      rw [hrv, upR_hi rows sj j j (Nat.le_refl _)] at hrw0
      have HRW := Aside0.mk hrw0
      have HRV := Aside0.mk (congrArg encR hrv)
      clear hrw0 HROW hrv
      have hc0 : wr.cell? ⟨go, j, none⟩ = some (.slice Ar (rows.getD j []).length cr) := hcell
      clear hcell
      generalize hrowj : rows.getD j [] = rowj at hc0 hcr HLj HRW HRV
      have HROJ := Aside0.mk hrowj
      clear hrowj
      go_wp2_with (first
        | ((with_reducible refine gate_builtin (b := .append) (xs := #[.tmp 22, .tmp 24]) rfl ?_); at_builtin; refine Kd.R_append (kG S' wr) (w0 := w0) w0.heap.size rfl (.tmp 22) (.tmp 24) 25 28 (.slice none 0 0) 24 rfl Tryd.underlying25 infoL rfl Nat.zero_lt_one (by omega) (.slice Ar rowj.length cr) rowj (sj j) [.slice A' (sj j).length c'] (fun _ => True) (fun _ => False) rfl rfl ⟨A', c', rfl, HSC.out, HS.out⟩ (fun _ h => h.elim) (fun _ _ => trivial) HRW.out.row HT.out.below HT.out.below.size (by have := HLj.out; omega) ?_; intro v8 w8 ho hb hg hat; have HO8 := Aside0.mk ho; have HB8 := Aside0.mk hb; have HG8 := Aside0.mk hg; have HA8 := Aside0.mk hat; clear ho hb hg hat))
      obtain ⟨Av, cv, rfl⟩ := Kd.R_slice HO8.out
      obtain ⟨N2, hN2⟩ : ∃ N2, N2 = rowj.length + 1 := ⟨_, rfl⟩
      have hrl2 : (rowj ++ [sj j]).length = N2 := by rw [hN2, List.length_append, List.length_singleton]
      obtain ⟨q, hq⟩ : ∃ q, rowj.length = q + 1 := ⟨rowj.length - 1, by have := HNE.out j hlt; rw [HROJ.out] at this; omega⟩
      obtain ⟨hT8, hG8, hK8⟩ := HT.out.app j hju (v2 := (Av, (rowj ++ [sj j]).length, cv)) HO8.out (fun k hk hne => HG8.out.block k hk (by rw [HRV.out] at hne; exact hne)) HG8.out.size HB8.out (by rw [HRV.out]; exact HA8.out)
      have hup : (upR rows sj j).set j (rowj ++ [sj j]) = upR rows sj (j + 1) := by rw [upR, upR_hi rows sj j j (Nat.le_refl _), HROJ.out]
      rw [hup] at hT8
      have hju3 : j < (upR rows sj (j + 1)).length := by rw [upR_len]; have := HM.out; omega
      have hrow8 := hT8.row j hju3
      have hget : (upR rows sj (j + 1)).getD j [] = rowj ++ [sj j] := by rw [← hup, getD_set_self _ _ _ _ hju]
      rw [hget] at hrow8
      obtain ⟨ad, cx, Ah, ch, hsl, _, hxc, hlh, hsafe⟩ := hrow8.at q (by omega)
      have hvv : (rv'.set j (Av, (rowj ++ [sj j]).length, cv)).getD j z0 = (Av, (rowj ++ [sj j]).length, cv) := getD_set_self _ _ _ _ (by rw [HT.out.lv]; exact hju)
      rw [hvv] at hsl
      injection hsl with hsl1 _ hsl3
      subst hsl1 hsl3
      have hlast : (rowj ++ [sj j]).getD q [] = rowj.getD (rowj.length - 1) [] := by
        rw [List.getD_eq_getElem?_getD, List.getElem?_append_left (by omega), List.getD_eq_getElem?_getD, show rowj.length - 1 = q by omega]
      rw [hlast] at hxc hlh hsafe
      have hhc := HH.out j hlt
      rw [HROJ.out] at hhc
      generalize rowj.getD (rowj.length - 1) [] = hsh at hxc hlh hsafe hhc
      rw [hrl2] at hT8 hK8 hG8 hvv ⊢
      generalize hS8 : (fun k => S' k ∨ (encR (some ad, N2, cv)).ownBlock = some k) = S8 at hT8 hK8 hG8
      clear hS8 hrow8 hup hget hlast hvv hrl2
      have HT8 := Aside0.mk hT8
      have HGr8 := Aside0.mk (HGr.out.trans HKp.out.size hG8)
      have HKp8 := Aside0.mk (HKp.out.trans (show Grows S' S8 w from ⟨hG8.1, fun i hi => (hG8.2 i hi).imp id fun h => Nat.le_trans HKp.out.size h⟩) hK8)
      have HS8 := Aside0.mk (HS.out.step hG8 hK8)
      have HSF := Aside0.mk hsafe
      have HHC := Aside0.mk hhc
      have HLh := Aside0.mk hlh
      have k0 : w8.cell? ⟨gt, 0, none⟩ = some (toyV a0 a1 a2 a3 a4 a5) := (blk_cell hT8.obj 0).trans rfl
      clear hT8 hG8 hK8 hsafe hhc hlh HO8 HB8 HG8 HA8 HT HS HGr HKp HRW hc0 k1 k2
      have hw2 : IntKind.i64.wrap ((N2 : Int) - 2) = (q : Int) := by
        rw [w64_is, w64_in _ (by have := HLj.out; omega)]
        omega
      have hq1 : (q : Int) < (N2 : Int) := by omega
      have HN2 := Aside0.mk hN2
      have HQ := Aside0.mk hq
      clear hN2 hq
      have hq0 : (0 : Int) ≤ (q : Int) := by omega
      go_region_held3 (fun w' => w'.cell? ⟨gt, 0, none⟩ = some (toyV a0 a1 a2 a3 a4 a5) ∧ w'.cell? (ad.add q) = some (.slice Ah hsh.length ch) ∧ Below w8.heap.size w8 w')
        (((try dsimp only); (try go_split_ands); (repeat' apply And.intro) <;> first | (go_keep; done) | exact below_drew (Below.refl _ _) | (refine pw_cell_below hb ?_; assumption) | (refine below_then ?_ ?_ hb; assumption; exact Below.size (by assumption))))
        ((go_at_call 53; have hB0 := Aside0.mk (show Below w8.heap.size w8 _ by go_split_ands; assumption); refine (impl_toy_HashChildren.calls a0 a1 a2 a3 a4 a5 Ah ch hsh A' c' (sj j) (sj (j + 1)) _ (Kd.C_below HSF.out.bytes hB0.out) HLh.out (Kd.C_below HS8.out.bytes hB0.out) HSC.out HHC.out).mono ?_; rintro en w3 ⟨v3, rfl, hR3, hb⟩))
      obtain ⟨A3, c3, rfl, hl3, _⟩ := Kd.R_reads hR3
      have HT0 := HT8.out.step hB0.out
      have HS3 := Aside0.mk (Safe.new (S := S8) HT0.top hR3)
      have HT3 := Aside0.mk (HT0.step hb)
      have HK3 := Aside0.mk (HKp8.out.trans (Grows.refl _ _) (KeptS.below (S := S8) (below_then hB0.out hB0.out.size hb)))
      have HL3 := Aside0.mk hl3
      clear hR3 hl3 HT0 hb hB0 HT8 HS8 HSC HSF HLh HHC HKp8
      go_split_ands
      clear hw2 hq1 hq0
      have k0 : w3.cell? ⟨gt, 0, none⟩ = some (toyV a0 a1 a2 a3 a4 a5) := (blk_cell HT3.out.obj 0).trans rfl
      have k2 : w3.cell? ⟨gt, 2, none⟩ = some (.slice (some ⟨go, 0, none⟩) rows.length cap) := (blk_cell HT3.out.obj 2).trans rfl
      have HLL : (upR rows sj (j + 1)).length = rows.length := upR_len _ _ _
      obtain ⟨hcj, hfj⟩ := HT3.out.cells HLL j (by rw [← HLU]; exact hju)
      obtain ⟨hT9, hK9⟩ := HT3.out.put HLL j (some ad, N2, cv)
      have HT9 := Aside0.mk hT9
      have HK9 := Aside0.mk (HK3.out.trans (show Grows S8 S8 w from Grows.refl _ _) hK9)
      have HS9 := Aside0.mk (HS3.out.step (Grows.refl _ _) hK9)
      clear hT9 hK9 HK3 HS3
      have hj64 : ∀ z : Int, z = 1 → wrap64 ((j : Int) + z) = ((j + 1 : Nat) : Int) := fun z hz => by rw [hz, w64_in _ (by have := HM64.out; omega)]; omega
      go_wp2
      go_roundg (m - (j + 1))
      case measure =>
        clear hj64
        omega
      case rel =>
        have hv := hj64 1 rfl
        have hj2 : j + 1 + (m - (j + 1)) = m := by clear hv hj64; omega
        exact ⟨j + 1, A3, c3, _, S8, hj2, rfl, by first | rfl | exact congrArg (Value.int .i64) hv, HL3, HT9, HS9, HGr8, HK9⟩
    · obtain rfl : j = m := by omega
      clear hlt hjm
      have HJM : Aside0 (0 = 0) := ⟨rfl⟩
      have hb1 : (Go.bits .and .u64 ((n : Int) / 2 ^ min j 64) 1 == 1) = false := by rw [HBT.out j (Nat.le_refl _), decide_eq_false (by rw [HBM.out]; omega)]
      obtain ⟨Ao, cap, hvh, hco⟩ : ∃ Ao cap, vh = .slice Ao rows.length cap ∧ rows.length ≤ cap := by
        obtain ⟨A, c, e, hl, _⟩ := Kd.R_reads HT.out.outer
        rw [HT.out.lo, HLU] at e hl
        exact ⟨A, c, e, hl⟩
      subst hvh
      have t6 : decide ((rows.length : Int) < (j : Int)) = false := decide_eq_false (by have := HM.out; omega)
      have t6n : decide (rows.length < j) = false := decide_eq_false (by have := HM.out; omega)
      by_cases hjl : j = rows.length
      · have t8 : ((j : Int) == (rows.length : Int)) = true := beq_iff_eq.2 (by omega)
        have t8n : (j == rows.length) = true := beq_iff_eq.2 hjl
        have HJL := Aside0.mk hjl
        clear hjl
        have hou : kO.R 25 wr w0.heap.size (fun _ => True) (.slice Ao rows.length cap) rv' := HT.out.outer
        have HOU := Aside0.mk hou
        have HLV : Aside0 (rv'.length = rows.length) := ⟨HT.out.lv.trans HLU⟩
        clear hou
        obtain ⟨L1, hL1⟩ : ∃ L1, L1 = rows.length + 1 := ⟨_, rfl⟩
        have HL1 := Aside0.mk hL1
        have HLV1 : Aside0 ((rv' ++ [z0]).length = L1) := ⟨by rw [List.length_append, HLV.out, hL1]; rfl⟩
        clear hL1
        go_wp2_with (first
          | ((with_reducible refine gate_builtin (b := .append) (xs := #[.tmp 66, .tmp 67]) rfl ?_); at_builtin; refine Kd.R_append kO (w0 := w0) w0.heap.size rfl (.tmp 66) (.tmp 67) 141 25 (.slice none 0 0) 24 rfl Tryd.underlying141 infoRR rfl Nat.zero_lt_one (by omega) (.slice Ao rows.length cap) rv' z0 [.slice none 0 0] (fun _ => True) (fun _ => False) rfl rfl rfl (fun _ h => h.elim) (fun _ _ => trivial) HOU.out HT.out.below HT.out.below.size (by have := HLV.out; have := HRL.out; omega) ?_; intro v9 w9 ho hb hg hat; obtain ⟨Av9, cv9, rfl⟩ := Kd.R_slice ho; rw [HLV1.out] at ho hat ⊢; have HO9 := Aside0.mk ho; have HB9 := Aside0.mk hb; have HG9 := Aside0.mk hg; have HA9 := Aside0.mk hat; have hne9 : some gt ≠ (Value.slice Ao rows.length cap).ownBlock := (fun he => (HT.out.oown gt he.symm).1 rfl); have hob9 := (hg.block gt (HT.out.top _ HT.out.sobj) hne9).trans HT.out.obj; have hc9 : w9.cell? ⟨gt, 2, none⟩ = some (.slice Ao rows.length cap) := (blk_cell hob9 2).trans rfl; have hf9 : w9.frozen? ⟨gt, 2, none⟩ = false := blk_frozen hob9 2; clear ho hb hg hat hne9 hob9 k0 k1 k2))
        obtain ⟨hT1, hG1, hK1⟩ := HT.out.more HO9.out (fun k hk hne => HG9.out.block k hk hne) HG9.out.size HB9.out HA9.out
        clear hc9 hf9
        have hL1 := HL1.out
        have hlv1 := HLV1.out
        generalize (w9.setCell ⟨gt, 2, none⟩ (.slice Av9 L1 cv9)) = wq at hT1 hK1 ⊢
        generalize hS1 : (fun k => S' k ∨ (Value.slice Av9 L1 cv9).ownBlock = some k) = S1 at hT1 hK1 hG1
        clear hS1
        have hlen1 : (upR rows sj j ++ [[]]).length = L1 := by rw [List.length_append, HLU, hL1]; rfl
        obtain ⟨go, cap, hvh, hcap⟩ := hT1.form (by rw [hlen1]; omega)
        rw [hlen1] at hcap
        injection hvh with hv1 hv2 hv3
        clear hv2
        subst hv1 hv3
        generalize cv9 = cap at hT1 hcap
        have HT1 := Aside0.mk hT1
        have HS1 := Aside0.mk (HS.out.step hG1 hK1)
        have HGr1 := Aside0.mk (HGr.out.trans HKp.out.size hG1)
        have HKp1 := Aside0.mk (HKp.out.trans (show Grows S' S1 w from ⟨hG1.1, fun i hi => (hG1.2 i hi).imp id fun h => Nat.le_trans HKp.out.size h⟩) hK1)
        have hrv1 : (rv' ++ [z0]).getD j z0 = (none, ([] : List (List Int)).length, 0) := by rw [getD_snoc, if_pos (by rw [HJL.out, HLV.out])]; rfl
        have hrow1 := hT1.row j (by rw [hlen1, hL1]; have := HJL.out; omega)
        rw [hrv1, getD_snoc, if_pos (HJL.out.trans HLU.symm)] at hrow1
        have hfin : (upR rows sj j ++ [[]]).set j ([] ++ [sj j]) = upT rows sj j := by
          unfold upT
          rw [if_pos HJL.out, List.set_append, if_neg (by rw [HLU]; have := HJL.out; omega), HLU, show j - rows.length = 0 by have := HJL.out; omega]
          rfl
        have hjL : j < L1 := by have := HJL.out; omega
        have hlr : ([] : List (List Int)).length ≤ 100000 := by simp
        have hcr : ([] : List (List Int)).length ≤ 0 := by simp
        clear hT1 hG1 hK1 HT HS HGr HKp HO9 HB9 HG9 HA9 HOU
        have hrl := HRL.out
        have hL100 : L1 ≤ 101 := by omega
        clear hrl hL1 hlv1
        obtain ⟨Ar, cr, r, hrv1, hcr, hrow1, hfin, hlr⟩ : ∃ (Ar : Option Addr) (cr : Nat) (r : List (List Int)), (rv' ++ [z0]).getD j z0 = (Ar, r.length, cr) ∧ r.length ≤ cr ∧ Rows S1 wq w0.heap.size (.slice Ar r.length cr) r ∧ (upR rows sj j ++ [[]]).set j (r ++ [sj j]) = upT rows sj j ∧ r.length ≤ 100000 := ⟨none, 0, [], hrv1, hcr, hrow1, hfin, hlr⟩
        generalize (rv' ++ [z0]) = rv1 at HT1 hrv1
        generalize (upR rows sj j ++ [[]]) = rows1 at HT1 hfin hlen1
        (try clear hL1)
        (try clear hlv1)
        have HROW := Aside0.mk hrow1
        have HFIN := Aside0.mk hfin
        have HLR := Aside0.mk hlr
        have HLEN := Aside0.mk hlen1
        have HRV := Aside0.mk hrv1
        clear hrow1 hfin hlr hlen1 hrv1
        have hj0 : (0 : Int) ≤ (j : Int) := by omega
        have hj1 : (j : Int) < (L1 : Int) := by omega
        have HTz := Aside0.mk (HT1.out.step (below_drew (Below.refl wq.heap.size wq)))
        have HSz := Aside0.mk (HS1.out.below (below_drew (Below.refl wq.heap.size wq)))
        have HKz := Aside0.mk (HKp1.out.trans (Grows.refl _ _) (KeptS.below (S := S1) (below_drew (Below.refl wq.heap.size wq))))
        have HRz := Aside0.mk (HROW.out.below (below_drew (Below.refl wq.heap.size wq)))
        have hcz : wq.drew.cell? ⟨go, j, none⟩ = some (.slice Ar r.length cr) := by have h1 := (HTz.out.cells HLEN.out j hjL).1; rw [HRV.out] at h1; exact h1
        refine start_ (n := 17) (S := fun w' => w'.cell? ⟨gt, 2, none⟩ = some (.slice (some ⟨go, 0, none⟩) L1 cap) ∧ w'.cell? ⟨go, j, none⟩ = some (.slice Ar r.length cr)) (ds := [16]) #[false, false, false, false, false, false, false, false, false, false, false, false, false, false, false, false, false] (by kernel_rfl) rfl rfl ⟨(blk_cell HTz.out.obj 2).trans rfl, hcz⟩ (fun hHeld => ?_)
        generalize wq.drew = wz at HTz HSz HKz HRz hcz hHeld ⊢
        clear HT1 HS1 HKp1 HROW
        refine pure_ (i := 0) (N := some 71) (v := ?_) (a' := ?_) #[true, false, false, false, false, false, false, false, false, false, false, false, false, false, false, false, false] rfl rfl (by kernel_rfl) (fun _ _ _ h => h) (Or.inl ⟨by rfl, ?_⟩) ?_ ?_
        rotate_left
        · intro w'
          go_simp
          with_reducible rfl
        rotate_left
        · simp only [Act.put, List.setIfInBounds_toArray, List.set_cons_zero, List.set_cons_succ]
          rfl
        refine pure_ (i := 1) (N := some 72) (v := ?_) (a' := ?_) #[true, true, false, false, false, false, false, false, false, false, false, false, false, false, false, false, false] rfl rfl (by kernel_rfl) (fun _ _ _ h => h) (Or.inl ⟨by rfl, ?_⟩) ?_ ?_
        rotate_left
        · intro w'
          go_simp
          with_reducible rfl
        rotate_left
        · simp only [Act.put, List.setIfInBounds_toArray, List.set_cons_zero, List.set_cons_succ]
          rfl
        refine pure_ (i := 2) (N := some 73) (v := ?_) (a' := ?_) #[true, true, true, false, false, false, false, false, false, false, false, false, false, false, false, false, false] rfl rfl (by kernel_rfl) (fun _ _ _ h => h) (Or.inl ⟨by rfl, ?_⟩) ?_ ?_
        rotate_left
        · intro w'
          go_simp
          with_reducible rfl
        rotate_left
        · simp only [Act.put, List.setIfInBounds_toArray, List.set_cons_zero, List.set_cons_succ]
          rfl
        refine take_ (i := 3) (N := some 74) (v := ?_) (a' := ?_) #[true, true, true, true, false, false, false, false, false, false, false, false, false, false, false, false, false] rfl rfl (by kernel_rfl) (fun _ _ _ h => h) (Or.inl ⟨by rfl, ?_⟩) hHeld ?_ ?_
        rotate_left
        · rintro w' ⟨s0, s1⟩
          go_simp
          with_reducible rfl
        rotate_left
        · simp only [Act.put, List.setIfInBounds_toArray, List.set_cons_zero, List.set_cons_succ]
          rfl
        refine pure_ (i := 4) (N := some 75) (v := ?_) (a' := ?_) #[true, true, true, true, true, false, false, false, false, false, false, false, false, false, false, false, false] rfl rfl (by kernel_rfl) (fun _ _ _ h => h) (Or.inl ⟨by rfl, ?_⟩) ?_ ?_
        rotate_left
        · intro w'
          go_simp
          with_reducible rfl
        rotate_left
        · simp only [Act.put, List.setIfInBounds_toArray, List.set_cons_zero, List.set_cons_succ]
          rfl
        refine pure_ (i := 5) (N := some 76) (v := ?_) (a' := ?_) #[true, true, true, true, true, true, false, false, false, false, false, false, false, false, false, false, false] rfl rfl (by kernel_rfl) (fun _ _ _ h => h) (Or.inl ⟨by rfl, ?_⟩) ?_ ?_
        rotate_left
        · intro w'
          go_simp
          with_reducible rfl
        rotate_left
        · simp only [Act.put, List.setIfInBounds_toArray, List.set_cons_zero, List.set_cons_succ]
          rfl
        refine pure_ (i := 6) (N := some 77) (v := ?_) (a' := ?_) #[true, true, true, true, true, true, true, false, false, false, false, false, false, false, false, false, false] rfl rfl (by kernel_rfl) (fun _ _ _ h => h) (Or.inl ⟨by rfl, ?_⟩) ?_ ?_
        rotate_left
        · intro w'
          go_simp
          with_reducible rfl
        rotate_left
        · simp only [Act.put, List.setIfInBounds_toArray, List.set_cons_zero, List.set_cons_succ]
          rfl
        refine pure_ (i := 7) (N := some 78) (v := ?_) (a' := ?_) #[true, true, true, true, true, true, true, true, false, false, false, false, false, false, false, false, false] rfl rfl (by kernel_rfl) (fun _ _ _ h => h) (Or.inl ⟨by rfl, ?_⟩) ?_ ?_
        rotate_left
        · intro w'
          go_simp
          with_reducible rfl
        rotate_left
        · simp only [Act.put, List.setIfInBounds_toArray, List.set_cons_zero, List.set_cons_succ]
          rfl
        refine take_ (i := 8) (N := some 79) (v := ?_) (a' := ?_) #[true, true, true, true, true, true, true, true, true, false, false, false, false, false, false, false, false] rfl rfl (by kernel_rfl) (fun _ _ _ h => h) (Or.inl ⟨by rfl, ?_⟩) hHeld ?_ ?_
        rotate_left
        · rintro w' ⟨s0, s1⟩
          go_simp
          with_reducible rfl
        rotate_left
        · simp only [Act.put, List.setIfInBounds_toArray, List.set_cons_zero, List.set_cons_succ]
          rfl
        refine pure_ (i := 9) (N := some 80) (v := ?_) (a' := ?_) #[true, true, true, true, true, true, true, true, true, true, false, false, false, false, false, false, false] rfl rfl (by kernel_rfl) (fun _ _ _ h => h) (Or.inl ⟨by rfl, ?_⟩) ?_ ?_
        rotate_left
        · intro w'
          go_simp
          with_reducible rfl
        rotate_left
        · simp only [Act.put, List.setIfInBounds_toArray, List.set_cons_zero, List.set_cons_succ]
          rfl
        refine pure_ (i := 10) (N := some 81) (v := ?_) (a' := ?_) #[true, true, true, true, true, true, true, true, true, true, true, false, false, false, false, false, false] rfl rfl (by kernel_rfl) (fun _ _ _ h => h) (Or.inl ⟨by rfl, ?_⟩) ?_ ?_
        rotate_left
        · intro w'
          go_simp
          with_reducible rfl
        rotate_left
        · simp only [Act.put, List.setIfInBounds_toArray, List.set_cons_zero, List.set_cons_succ]
          rfl
        refine take_ (i := 11) (N := some 82) (v := ?_) (a' := ?_) #[true, true, true, true, true, true, true, true, true, true, true, true, false, false, false, false, false] rfl rfl (by kernel_rfl) (fun _ _ _ h => h) (Or.inl ⟨by rfl, ?_⟩) hHeld ?_ ?_
        rotate_left
        · rintro w' ⟨s0, s1⟩
          go_simp
          with_reducible rfl
        rotate_left
        · simp only [Act.put, List.setIfInBounds_toArray, List.set_cons_zero, List.set_cons_succ]
          rfl
        refine pure_ (i := 12) (N := some 83) (v := ?_) (a' := ?_) #[true, true, true, true, true, true, true, true, true, true, true, true, true, false, false, false, false] rfl rfl (by kernel_rfl) (fun _ _ _ h => h) (Or.inl ⟨by rfl, ?_⟩) ?_ ?_
        rotate_left
        · intro w'
          go_simp
          with_reducible rfl
        rotate_left
        · simp only [Act.put, List.setIfInBounds_toArray, List.set_cons_zero, List.set_cons_succ]
          rfl
        refine one_ (i := 13) (N := some 84) #[true, true, true, true, true, true, true, true, true, true, true, true, true, true, false, false, false] rfl rfl (by kernel_rfl) (by decide) (fun K hK => ?_)
        refine event_step rfl (v := .slice (some ⟨_, 0, none⟩) 1 1) (w1 := World.alloc _ (.cells #[.slice A' (sj j).length c'] 28)) (by first | (go_simp; done) | (go_simp; rfl) | (go_simp; exact ⟨rfl, rfl⟩)) ?_
        refine hK.out _ _ ⟨(blk_cell (blk_below HTz.out.obj (below_alloc (Below.refl _ _) _)) 2).trans rfl, pw_cell_below (below_alloc (Below.refl _ _) _) hcz⟩ (fun hHeld => ?_)
        clear hK K
        refine norm_ (a' := ?_) ?_ ?_
        rotate_left
        · show Act.put _ (some 84) _ = _
          simp only [Act.put, List.setIfInBounds_toArray, List.set_cons_zero, List.set_cons_succ]
          rfl
        refine one_ (i := 14) (N := some 85) #[true, true, true, true, true, true, true, true, true, true, true, true, true, true, true, false, false] rfl rfl (by kernel_rfl) (by decide) (fun K hK => ?_)
        refine Kd.R_append_step (kG S1 wz) (w0 := w0) w0.heap.size rfl (.tmp 82) (.tmp 84) 25 28 (.slice none 0 0) 24 rfl Tryd.underlying25 infoL rfl Nat.zero_lt_one (by omega) (.slice Ar r.length cr) r (sj j) [.slice A' (sj j).length c'] (fun _ => True) (fun _ => False) rfl rfl ⟨A', c', rfl, HSC.out, HSz.out⟩ (fun _ h => h.elim) (fun _ _ => trivial) HRz.out.row HTz.out.below HTz.out.below.size (by have := HLR.out; omega) ?_
        intro v1 w1 hR1 hB1 hG1 hA1
        have hjR : j < rows1.length := by rw [HLEN.out]; exact hjL
        have hRV : encR (rv1.getD j z0) = .slice Ar r.length cr := congrArg encR HRV.out
        obtain ⟨Av, cv, rfl⟩ := Kd.R_slice hR1
        obtain ⟨hT8, hG8, hK8⟩ := HTz.out.app j hjR (v2 := (Av, (r ++ [sj j]).length, cv)) hR1 (fun k hk hne => hG1.block k hk (by rw [hRV] at hne; exact hne)) hG1.size hB1 (by rw [hRV]; exact hA1)
        rw [HFIN.out] at hT8
        generalize hN2 : (r ++ [sj j]).length = N2 at hT8 hG8 hK8 ⊢
        generalize hS8 : (fun k => S1 k ∨ (encR (Av, N2, cv)).ownBlock = some k) = S8 at hT8 hK8 hG8
        clear hS8 hN2 hR1 hG1 hA1 hB1
        have hl8 : (upT rows sj j).length = L1 := by rw [← HFIN.out, List.length_set]; exact HLEN.out
        obtain ⟨hc8, hf8⟩ := hT8.cells hl8 j hjL
        rw [HRV.out] at hc8
        have hc8' : w1.cell? ⟨go, j, none⟩ = some (.slice Ar r.length cr) := hc8
        clear hc8
        refine hK.out _ _ ⟨(blk_cell hT8.obj 2).trans rfl, hc8'⟩ (fun hHeld => ?_)
        clear hK K
        refine norm_ (a' := ?_) ?_ ?_
        rotate_left
        · show Act.put _ (some 85) _ = _
          simp only [Act.put, List.setIfInBounds_toArray, List.set_cons_zero, List.set_cons_succ]
          rfl
        obtain ⟨hT9, hK9⟩ := hT8.put hl8 j (Av, N2, cv)
        refine pure_ (i := 15) (N := some 86) (v := ?_) (a' := ?_) #[true, true, true, true, true, true, true, true, true, true, true, true, true, true, true, true, false] rfl rfl (by kernel_rfl) (fun _ _ _ h => h) (Or.inl ⟨by rfl, ?_⟩) ?_ ?_
        rotate_left
        · intro w'
          go_simp
          with_reducible rfl
        rotate_left
        · simp only [Act.put, List.setIfInBounds_toArray, List.set_cons_zero, List.set_cons_succ]
          rfl
        clear hHeld
        refine last_ (i := 16) (N := none) #[true, true, true, true, true, true, true, true, true, true, true, true, true, true, true, true, true] rfl rfl (by kernel_rfl) (by simp) (fun K hK => ?_)
        refine store_step rfl (w1 := w1.setCell ⟨go, j, none⟩ (.slice Av N2 cv)) (by first | (go_simp; done) | (go_simp; rfl) | (go_simp; exact ⟨rfl, rfl⟩)) ?_
        refine hK.out _ _ ?_
        clear hK K
        refine norm_ (a' := ?_) ?_ ?_
        rotate_left
        · show Act.put _ none _ = _
          first | rfl | (simp only [Act.put]; rfl) | simp only [Act.put]
        refine done_ (by kernel_rfl) ?_
        have HT9 := Aside0.mk hT9
        have HK9 := Aside0.mk ((HKz.out.trans (show Grows S1 S8 w from ⟨hG8.1, fun i hi => (hG8.2 i hi).imp id fun h => Nat.le_trans HKz.out.size h⟩) hK8).trans (show Grows S8 S8 w from Grows.refl _ _) hK9)
        have HG9 := Aside0.mk (HGr1.out.trans HKz.out.size hG8)
        clear hT8 hT9 hK8 hK9 hG8 hc8' hf8 HTz HSz HKz HRz hcz
        generalize (w1.setCell ⟨go, j, none⟩ (.slice Av N2 cv)) = w9 at HT9 HK9 ⊢
        have k1 : w9.cell? ⟨gt, 1, none⟩ = some (.int .u64 (n : Int)) := (blk_cell HT9.out.obj 1).trans rfl
        have f1 : w9.frozen? ⟨gt, 1, none⟩ = false := blk_frozen HT9.out.obj 1
        have hw : ∀ z : Int, z = 1 → IntKind.u64.wrap ((n : Int) + z) = (n : Int) + 1 := fun z hz => by
          rw [hz]
          show ((n : Int) + 1) % 18446744073709551616 = _
          have := HN.out
          omega
        go_wp2
        obtain ⟨hT10, hK10⟩ := HT9.out.count ((n : Int) + 1)
        go_end0
        have hK11 := HK9.out.trans (show Grows S8 S8 w from Grows.refl _ _) hK10
        first | exact ⟨_, _, _, S8, rfl, hT10, HG9.out, hK11⟩ | exact ⟨_, _, _, S8, hT10, HG9.out, hK11⟩
      · have t8 : ((j : Int) == (rows.length : Int)) = false := beq_eq_false_iff_ne.2 (by omega)
        have t8n : (j == rows.length) = false := beq_eq_false_iff_ne.2 hjl
        have hjL : j < rows.length := by have := HM.out; omega
        have HJL := Aside0.mk hjl
        clear hjl
        go_wp2
        obtain ⟨go, cap', hvh, hcap⟩ := HT.out.form (by rw [HLU]; omega)
        rw [HLU] at hvh hcap
        injection hvh with hv1 hv2 hv3
        clear hv2
        subst hv1 hv3
        obtain ⟨Ar, cr, hrv1, hcr⟩ := HT.out.rowv j (by rw [HLU]; exact hjL)
        have hrow1 := HT.out.row j (by rw [HLU]; exact hjL)
        rw [hrv1] at hrow1
        rw [upR_hi rows sj j j (Nat.le_refl _)] at hrv1 hcr hrow1
        have hfin : (upR rows sj j).set j (rows.getD j [] ++ [sj j]) = upT rows sj j := by
          unfold upT
          rw [if_neg HJL.out]
        have hlr := HLN.out j hjL
        have hlen1 := HLU
        have HT1 := HT
        have HS1 := HS
        have HGr1 := HGr
        have HKp1 := HKp
        have hL100 : rows.length ≤ 101 := by have := HRL.out; omega
        clear HT HS HGr HKp k0 k1 k2
        generalize rv' = rv1 at HT1 hrv1
        generalize (upR rows sj j) = rows1 at HT1 hfin hlen1
        generalize rows.getD j [] = r at hrv1 hcr hrow1 hfin hlr
        generalize S' = S1 at HT1 HS1 HGr1 HKp1 hrow1
        generalize wr = wq at HT1 HS1 HKp1 hrow1 ⊢
        generalize rows.length = L1 at HT1 hjL hlen1 hcap hL100 ⊢
        have HROW := Aside0.mk hrow1
        have HFIN := Aside0.mk hfin
        have HLR := Aside0.mk hlr
        have HLEN := Aside0.mk hlen1
        have HRV := Aside0.mk hrv1
        clear hrow1 hfin hlr hlen1 hrv1
        have hj0 : (0 : Int) ≤ (j : Int) := by omega
        have hj1 : (j : Int) < (L1 : Int) := by omega
        have HTz := Aside0.mk (HT1.out.step (below_drew (Below.refl wq.heap.size wq)))
        have HSz := Aside0.mk (HS1.out.below (below_drew (Below.refl wq.heap.size wq)))
        have HKz := Aside0.mk (HKp1.out.trans (Grows.refl _ _) (KeptS.below (S := S1) (below_drew (Below.refl wq.heap.size wq))))
        have HRz := Aside0.mk (HROW.out.below (below_drew (Below.refl wq.heap.size wq)))
        have hcz : wq.drew.cell? ⟨go, j, none⟩ = some (.slice Ar r.length cr) := by have h1 := (HTz.out.cells HLEN.out j hjL).1; rw [HRV.out] at h1; exact h1
        refine start_ (n := 17) (S := fun w' => w'.cell? ⟨gt, 2, none⟩ = some (.slice (some ⟨go, 0, none⟩) L1 cap) ∧ w'.cell? ⟨go, j, none⟩ = some (.slice Ar r.length cr)) (ds := [16]) #[false, false, false, false, false, false, false, false, false, false, false, false, false, false, false, false, false] (by kernel_rfl) rfl rfl ⟨(blk_cell HTz.out.obj 2).trans rfl, hcz⟩ (fun hHeld => ?_)
        generalize wq.drew = wz at HTz HSz HKz HRz hcz hHeld ⊢
        clear HT1 HS1 HKp1 HROW
        refine pure_ (i := 0) (N := some 71) (v := ?_) (a' := ?_) #[true, false, false, false, false, false, false, false, false, false, false, false, false, false, false, false, false] rfl rfl (by kernel_rfl) (fun _ _ _ h => h) (Or.inl ⟨by rfl, ?_⟩) ?_ ?_
        rotate_left
        · intro w'
          go_simp
          with_reducible rfl
        rotate_left
        · simp only [Act.put, List.setIfInBounds_toArray, List.set_cons_zero, List.set_cons_succ]
          rfl
        refine pure_ (i := 1) (N := some 72) (v := ?_) (a' := ?_) #[true, true, false, false, false, false, false, false, false, false, false, false, false, false, false, false, false] rfl rfl (by kernel_rfl) (fun _ _ _ h => h) (Or.inl ⟨by rfl, ?_⟩) ?_ ?_
        rotate_left
        · intro w'
          go_simp
          with_reducible rfl
        rotate_left
        · simp only [Act.put, List.setIfInBounds_toArray, List.set_cons_zero, List.set_cons_succ]
          rfl
        refine pure_ (i := 2) (N := some 73) (v := ?_) (a' := ?_) #[true, true, true, false, false, false, false, false, false, false, false, false, false, false, false, false, false] rfl rfl (by kernel_rfl) (fun _ _ _ h => h) (Or.inl ⟨by rfl, ?_⟩) ?_ ?_
        rotate_left
        · intro w'
          go_simp
          with_reducible rfl
        rotate_left
        · simp only [Act.put, List.setIfInBounds_toArray, List.set_cons_zero, List.set_cons_succ]
          rfl
        refine take_ (i := 3) (N := some 74) (v := ?_) (a' := ?_) #[true, true, true, true, false, false, false, false, false, false, false, false, false, false, false, false, false] rfl rfl (by kernel_rfl) (fun _ _ _ h => h) (Or.inl ⟨by rfl, ?_⟩) hHeld ?_ ?_
        rotate_left
        · rintro w' ⟨s0, s1⟩
          go_simp
          with_reducible rfl
        rotate_left
        · simp only [Act.put, List.setIfInBounds_toArray, List.set_cons_zero, List.set_cons_succ]
          rfl
        refine pure_ (i := 4) (N := some 75) (v := ?_) (a' := ?_) #[true, true, true, true, true, false, false, false, false, false, false, false, false, false, false, false, false] rfl rfl (by kernel_rfl) (fun _ _ _ h => h) (Or.inl ⟨by rfl, ?_⟩) ?_ ?_
        rotate_left
        · intro w'
          go_simp
          with_reducible rfl
        rotate_left
        · simp only [Act.put, List.setIfInBounds_toArray, List.set_cons_zero, List.set_cons_succ]
          rfl
        refine pure_ (i := 5) (N := some 76) (v := ?_) (a' := ?_) #[true, true, true, true, true, true, false, false, false, false, false, false, false, false, false, false, false] rfl rfl (by kernel_rfl) (fun _ _ _ h => h) (Or.inl ⟨by rfl, ?_⟩) ?_ ?_
        rotate_left
        · intro w'
          go_simp
          with_reducible rfl
        rotate_left
        · simp only [Act.put, List.setIfInBounds_toArray, List.set_cons_zero, List.set_cons_succ]
          rfl
        refine pure_ (i := 6) (N := some 77) (v := ?_) (a' := ?_) #[true, true, true, true, true, true, true, false, false, false, false, false, false, false, false, false, false] rfl rfl (by kernel_rfl) (fun _ _ _ h => h) (Or.inl ⟨by rfl, ?_⟩) ?_ ?_
        rotate_left
        · intro w'
          go_simp
          with_reducible rfl
        rotate_left
        · simp only [Act.put, List.setIfInBounds_toArray, List.set_cons_zero, List.set_cons_succ]
          rfl
        refine pure_ (i := 7) (N := some 78) (v := ?_) (a' := ?_) #[true, true, true, true, true, true, true, true, false, false, false, false, false, false, false, false, false] rfl rfl (by kernel_rfl) (fun _ _ _ h => h) (Or.inl ⟨by rfl, ?_⟩) ?_ ?_
        rotate_left
        · intro w'
          go_simp
          with_reducible rfl
        rotate_left
        · simp only [Act.put, List.setIfInBounds_toArray, List.set_cons_zero, List.set_cons_succ]
          rfl
        refine take_ (i := 8) (N := some 79) (v := ?_) (a' := ?_) #[true, true, true, true, true, true, true, true, true, false, false, false, false, false, false, false, false] rfl rfl (by kernel_rfl) (fun _ _ _ h => h) (Or.inl ⟨by rfl, ?_⟩) hHeld ?_ ?_
        rotate_left
        · rintro w' ⟨s0, s1⟩
          go_simp
          with_reducible rfl
        rotate_left
        · simp only [Act.put, List.setIfInBounds_toArray, List.set_cons_zero, List.set_cons_succ]
          rfl
        refine pure_ (i := 9) (N := some 80) (v := ?_) (a' := ?_) #[true, true, true, true, true, true, true, true, true, true, false, false, false, false, false, false, false] rfl rfl (by kernel_rfl) (fun _ _ _ h => h) (Or.inl ⟨by rfl, ?_⟩) ?_ ?_
        rotate_left
        · intro w'
          go_simp
          with_reducible rfl
        rotate_left
        · simp only [Act.put, List.setIfInBounds_toArray, List.set_cons_zero, List.set_cons_succ]
          rfl
        refine pure_ (i := 10) (N := some 81) (v := ?_) (a' := ?_) #[true, true, true, true, true, true, true, true, true, true, true, false, false, false, false, false, false] rfl rfl (by kernel_rfl) (fun _ _ _ h => h) (Or.inl ⟨by rfl, ?_⟩) ?_ ?_
        rotate_left
        · intro w'
          go_simp
          with_reducible rfl
        rotate_left
        · simp only [Act.put, List.setIfInBounds_toArray, List.set_cons_zero, List.set_cons_succ]
          rfl
        refine take_ (i := 11) (N := some 82) (v := ?_) (a' := ?_) #[true, true, true, true, true, true, true, true, true, true, true, true, false, false, false, false, false] rfl rfl (by kernel_rfl) (fun _ _ _ h => h) (Or.inl ⟨by rfl, ?_⟩) hHeld ?_ ?_
        rotate_left
        · rintro w' ⟨s0, s1⟩
          go_simp
          with_reducible rfl
        rotate_left
        · simp only [Act.put, List.setIfInBounds_toArray, List.set_cons_zero, List.set_cons_succ]
          rfl
        refine pure_ (i := 12) (N := some 83) (v := ?_) (a' := ?_) #[true, true, true, true, true, true, true, true, true, true, true, true, true, false, false, false, false] rfl rfl (by kernel_rfl) (fun _ _ _ h => h) (Or.inl ⟨by rfl, ?_⟩) ?_ ?_
        rotate_left
        · intro w'
          go_simp
          with_reducible rfl
        rotate_left
        · simp only [Act.put, List.setIfInBounds_toArray, List.set_cons_zero, List.set_cons_succ]
          rfl
        refine one_ (i := 13) (N := some 84) #[true, true, true, true, true, true, true, true, true, true, true, true, true, true, false, false, false] rfl rfl (by kernel_rfl) (by decide) (fun K hK => ?_)
        refine event_step rfl (v := .slice (some ⟨_, 0, none⟩) 1 1) (w1 := World.alloc _ (.cells #[.slice A' (sj j).length c'] 28)) (by first | (go_simp; done) | (go_simp; rfl) | (go_simp; exact ⟨rfl, rfl⟩)) ?_
        refine hK.out _ _ ⟨(blk_cell (blk_below HTz.out.obj (below_alloc (Below.refl _ _) _)) 2).trans rfl, pw_cell_below (below_alloc (Below.refl _ _) _) hcz⟩ (fun hHeld => ?_)
        clear hK K
        refine norm_ (a' := ?_) ?_ ?_
        rotate_left
        · show Act.put _ (some 84) _ = _
          simp only [Act.put, List.setIfInBounds_toArray, List.set_cons_zero, List.set_cons_succ]
          rfl
        refine one_ (i := 14) (N := some 85) #[true, true, true, true, true, true, true, true, true, true, true, true, true, true, true, false, false] rfl rfl (by kernel_rfl) (by decide) (fun K hK => ?_)
        refine Kd.R_append_step (kG S1 wz) (w0 := w0) w0.heap.size rfl (.tmp 82) (.tmp 84) 25 28 (.slice none 0 0) 24 rfl Tryd.underlying25 infoL rfl Nat.zero_lt_one (by omega) (.slice Ar r.length cr) r (sj j) [.slice A' (sj j).length c'] (fun _ => True) (fun _ => False) rfl rfl ⟨A', c', rfl, HSC.out, HSz.out⟩ (fun _ h => h.elim) (fun _ _ => trivial) HRz.out.row HTz.out.below HTz.out.below.size (by have := HLR.out; omega) ?_
        intro v1 w1 hR1 hB1 hG1 hA1
        have hjR : j < rows1.length := by rw [HLEN.out]; exact hjL
        have hRV : encR (rv1.getD j z0) = .slice Ar r.length cr := congrArg encR HRV.out
        obtain ⟨Av, cv, rfl⟩ := Kd.R_slice hR1
        obtain ⟨hT8, hG8, hK8⟩ := HTz.out.app j hjR (v2 := (Av, (r ++ [sj j]).length, cv)) hR1 (fun k hk hne => hG1.block k hk (by rw [hRV] at hne; exact hne)) hG1.size hB1 (by rw [hRV]; exact hA1)
        rw [HFIN.out] at hT8
        generalize hN2 : (r ++ [sj j]).length = N2 at hT8 hG8 hK8 ⊢
        generalize hS8 : (fun k => S1 k ∨ (encR (Av, N2, cv)).ownBlock = some k) = S8 at hT8 hK8 hG8
        clear hS8 hN2 hR1 hG1 hA1 hB1
        have hl8 : (upT rows sj j).length = L1 := by rw [← HFIN.out, List.length_set]; exact HLEN.out
        obtain ⟨hc8, hf8⟩ := hT8.cells hl8 j hjL
        rw [HRV.out] at hc8
        have hc8' : w1.cell? ⟨go, j, none⟩ = some (.slice Ar r.length cr) := hc8
        clear hc8
        refine hK.out _ _ ⟨(blk_cell hT8.obj 2).trans rfl, hc8'⟩ (fun hHeld => ?_)
        clear hK K
        refine norm_ (a' := ?_) ?_ ?_
        rotate_left
        · show Act.put _ (some 85) _ = _
          simp only [Act.put, List.setIfInBounds_toArray, List.set_cons_zero, List.set_cons_succ]
          rfl
        obtain ⟨hT9, hK9⟩ := hT8.put hl8 j (Av, N2, cv)
        refine pure_ (i := 15) (N := some 86) (v := ?_) (a' := ?_) #[true, true, true, true, true, true, true, true, true, true, true, true, true, true, true, true, false] rfl rfl (by kernel_rfl) (fun _ _ _ h => h) (Or.inl ⟨by rfl, ?_⟩) ?_ ?_
        rotate_left
        · intro w'
          go_simp
          with_reducible rfl
        rotate_left
        · simp only [Act.put, List.setIfInBounds_toArray, List.set_cons_zero, List.set_cons_succ]
          rfl
        clear hHeld
        refine last_ (i := 16) (N := none) #[true, true, true, true, true, true, true, true, true, true, true, true, true, true, true, true, true] rfl rfl (by kernel_rfl) (by simp) (fun K hK => ?_)
        refine store_step rfl (w1 := w1.setCell ⟨go, j, none⟩ (.slice Av N2 cv)) (by first | (go_simp; done) | (go_simp; rfl) | (go_simp; exact ⟨rfl, rfl⟩)) ?_
        refine hK.out _ _ ?_
        clear hK K
        refine norm_ (a' := ?_) ?_ ?_
        rotate_left
        · show Act.put _ none _ = _
          first | rfl | (simp only [Act.put]; rfl) | simp only [Act.put]
        refine done_ (by kernel_rfl) ?_
        have HT9 := Aside0.mk hT9
        have HK9 := Aside0.mk ((HKz.out.trans (show Grows S1 S8 w from ⟨hG8.1, fun i hi => (hG8.2 i hi).imp id fun h => Nat.le_trans HKz.out.size h⟩) hK8).trans (show Grows S8 S8 w from Grows.refl _ _) hK9)
        have HG9 := Aside0.mk (HGr1.out.trans HKz.out.size hG8)
        clear hT8 hT9 hK8 hK9 hG8 hc8' hf8 HTz HSz HKz HRz hcz
        generalize (w1.setCell ⟨go, j, none⟩ (.slice Av N2 cv)) = w9 at HT9 HK9 ⊢
        have k1 : w9.cell? ⟨gt, 1, none⟩ = some (.int .u64 (n : Int)) := (blk_cell HT9.out.obj 1).trans rfl
        have f1 : w9.frozen? ⟨gt, 1, none⟩ = false := blk_frozen HT9.out.obj 1
        have hw : ∀ z : Int, z = 1 → IntKind.u64.wrap ((n : Int) + z) = (n : Int) + 1 := fun z hz => by
          rw [hz]
          show ((n : Int) + 1) % 18446744073709551616 = _
          have := HN.out
          omega
        go_wp2
        obtain ⟨hT10, hK10⟩ := HT9.out.count ((n : Int) + 1)
        go_end0
        have hK11 := HK9.out.trans (show Grows S8 S8 w from Grows.refl _ _) hK10
        first | exact ⟨_, _, _, S8, rfl, hT10, HG9.out, hK11⟩ | exact ⟨_, _, _, S8, hT10, HG9.out, hK11⟩
end Go.Proofs.YtfhcpniibiobgaaDoor.Qf
