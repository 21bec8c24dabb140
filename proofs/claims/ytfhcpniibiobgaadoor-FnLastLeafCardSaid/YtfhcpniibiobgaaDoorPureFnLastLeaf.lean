/- FnLastLeaf, all ways joined: plain. -/
import Derived.Test.YtfhcpniibiobgaaDoorTd
import Derived.Test.YtfhcpniibiobgaaDoorPw
namespace Go.Proofs.YtfhcpniibiobgaaDoor.Pure
open Go.RowKit Go.Proofs.YtfhcpniibiobgaaDoorW.PrintWords Go.Proofs.YtfhcpniibiobgaaDoorW.PrintMore Go.Proofs.YtfhcpniibiobgaaDoorW.PrintLast
open Hs (CB CL)
open Go.Proofs.YtfhcpniibiobgaaDoor.M (nodesN leftN rightN pc)
open Core (IsNs tot mg stepL lsL)

theorem nodes_up (b e : Int) (l : List Qf.S52) (k : Nat) (h : Qf.spec_Nodes.f k b e = some l) : ∀ d, Qf.spec_Nodes.f (k + d) b e = some l
  | 0 => h
  | d + 1 => Qf.spec_Nodes.mono b e (k + d) l (nodes_up b e l k h d)
theorem tot_le (l : List (List Int)) (h : ∀ x ∈ l, x.length ≤ 5000) : tot List.length l ≤ l.length * 5000 := by
  induction l with
  | nil => simp [tot]
  | cons x l ih =>
    have h1 := h x (by simp)
    have h2 := ih fun y hy => h y (by simp [hy])
    rw [tot, List.length_cons, Nat.succ_mul]
    omega
/-- Whether a range is fair, and what it then is. -/
theorem fair_of (b e : Nat) (he : e < 18446744073709551616) (hs : List (List Int)) (hlen : hs.length ≤ 2147483647) : ∃ k1 fb, (∀ K, k1 + 2147483648 ≤ K → Qf.laws_rangeFair.f K (b : Int) (e : Int) hs = some fb) ∧ (fb = true → hs.length ≤ 300 ∧ (∀ h ∈ hs, h.length ≤ 5000) ∧ (b = 0 → hs.length = pc 64 e)) := by
  by_cases hbe : b ≤ e
  · obtain ⟨L, R, M, d, hf, hm⟩ := decompose_of b e hbe he
    obtain ⟨k1, hk1⟩ := nodes_of hm he
    have hsz := size_of hf hm he
    have hup : ∀ K, k1 ≤ K → Qf.spec_Nodes.f K (b : Int) (e : Int) = some _ := fun K hK => by
      obtain ⟨d, rfl⟩ : ∃ d, K = k1 + d := ⟨K - k1, by omega⟩
      exact nodes_up _ _ _ _ hk1 d
    obtain ⟨nd, hnd⟩ : ∃ nd, nd = (nodesN M e L R).length := ⟨_, rfl⟩
    have hpr : ∀ K, k1 ≤ K → Qf.spec_ProperRange.f K (b : Int) (e : Int) hs = some (decide (hs.length = nd)) := fun K hK => by
      unfold Qf.spec_ProperRange.f
      rw [if_pos (by omega), hup K hK, Option.bind_some, List.length_map, ← hnd]
      refine congrArg some ?_
      by_cases h : hs.length = nd
      · rw [decide_eq_true h]
        exact beq_iff_eq.2 (by omega)
      · rw [decide_eq_false h]
        exact beq_eq_false_iff_ne.2 (by omega)
    by_cases hq : hs.length = nd
    · obtain ⟨pb, hp, hpl⟩ := small_f hs hlen 2147483648 (Nat.le_refl _)
      refine ⟨k1, pb, fun K hK => ?_, fun ht => ⟨(hpl ht).1, (hpl ht).2, fun hb => ?_⟩⟩
      · obtain ⟨pb', hp', _⟩ := small_f hs hlen K (by omega)
        have hup2 : ∀ d, Qf.laws_logSmall.f (2147483648 + d) hs = some pb := fun d => by
          induction d with
          | zero => exact hp
          | succ d ih => exact Qf.laws_logSmall.mono hs (2147483648 + d) pb ih
        obtain ⟨d, rfl⟩ : ∃ d, K = 2147483648 + d := ⟨K - 2147483648, by omega⟩
        unfold Qf.laws_rangeFair.f
        rw [hpr _ (by omega), Option.bind_some, if_pos (by rw [decide_eq_true hq]), hup2, Option.bind_some]
      · subst hb
        have h1 := (rsize_zero e he).symm.trans hsz
        have h2 := Option.some.inj h1
        omega
    · refine ⟨k1, false, fun K hK => ?_, fun h => by cases h⟩
      unfold Qf.laws_rangeFair.f
      rw [hpr K (by omega), Option.bind_some, if_neg (by simpa using hq)]
  · refine ⟨0, false, fun K _ => ?_, fun h => by cases h⟩
    unfold Qf.laws_rangeFair.f Qf.spec_ProperRange.f
    rw [if_neg (by omega), Option.bind_some, if_neg (by simp)]
theorem next_one (K : Nat) (b e : Nat) (hs : List (List Int)) (fb : Bool) (hf : Qf.laws_rangeFair.f (K + 1) (b : Int) (e : Int) hs = some fb) : Qf.laws_growthNext.f (K + 1 + 1) [⟨(b : Int), (e : Int), hs⟩] = some (fb && decide (b = 0)) := by
  have hx : Qf.rd_T35 [⟨(b : Int), (e : Int), hs⟩] 0 = ⟨(b : Int), (e : Int), hs⟩ := rfl
  unfold Qf.laws_growthNext.f
  rw [Qf.laws_growthNext.l0, if_pos (by simp), if_pos (by omega), if_pos (by simp), hx]
  dsimp only
  rw [hf, Option.bind_some]
  cases fb with
  | false => rfl
  | true =>
    rw [if_pos rfl, Bool.true_and]
    by_cases h : b = 0
    · rw [if_pos (by omega), decide_eq_true h, Qf.laws_growthNext.l0, if_neg (by rw [w64p _ (by omega)]; simp)]
    · rw [if_neg (by omega), decide_eq_false h]
theorem lastLeaf (a0 a1 a2 a3 a4 a5 x1 x2 : Int) (A : Option Addr) (c : Nat) (hs : List (List Int)) (A1 : Option Addr) (c1 : Nat) (s : List Int) (w : World) (wa : (Lit.int .u64 x1).wf = true) (wb : (Lit.int .u64 x2).wf = true) (hl : CL w A hs) (hc : hs.length ≤ c) (hl1 : CB w A1 s) (hc1 : s.length ≤ c1) (HG : Glob w) :
    Calls Tryd.prog 11 #[.agg #[.int .i64 a0, .int .i64 a1, .int .i64 a2, .int .u64 a3, .int .u64 a4, .int .u64 a5], .agg #[.int .u64 x1, .int .u64 x2, .slice A hs.length c], .slice A1 s.length c1] w fun e w' => e = .returned (.bool true) ∧ Below w.heap.size w w' := by
  obtain ⟨b, rfl, hb⟩ := nat_of_wf wa
  obtain ⟨e, rfl, he⟩ := nat_of_wf wb
  obtain ⟨zb, hz, hzl⟩ := zz_f hs 2147483648 (Nat.le_refl _)
  have hz7 : ∀ K, 2147483648 ≤ K → Qf.laws_zzFits7.f K (b : Int) (e : Int) hs = some zb := fun K hK => by
    have hup : ∀ d, Qf.laws_zzFits2.f (2147483648 + d) hs = some zb := fun d => by
      induction d with
      | zero => exact hz
      | succ d ih => exact Qf.laws_zzFits2.mono hs (2147483648 + d) zb ih
    obtain ⟨d, rfl⟩ : ∃ d, K = 2147483648 + d := ⟨K - 2147483648, by omega⟩
    unfold Qf.laws_zzFits7.f
    rw [hup, Option.bind_some]
    cases zb <;> rfl
  cases zb with
  | false => exact Qr.ll1 2147483648 a0 a1 a2 a3 a4 a5 b e A c hs A1 c1 s w hl hc hl1 hc1 (hz7 _ (Nat.le_refl _))
  | true =>
    obtain ⟨k1, fb, hfair, hfb⟩ := fair_of b e he hs (hzl rfl)
    obtain ⟨K, hK⟩ : ∃ K, K = k1 + 2147483648 := ⟨_, rfl⟩
    have hz8 := hz7 (K + 1 + 1) (by omega)
    by_cases hbig : s.length ≤ 2147483647
    · by_cases hne : (s.length : Int) = a1
      · by_cases he1 : e + 1 < 18446744073709551616
        · have hgn := next_one K b e hs fb (hfair _ (by omega))
          rcases hv : fb && decide (b = 0) with _ | _
          · rw [hv] at hgn
            exact Qr.ll5 (K + 1 + 1) a0 a1 a2 a3 a4 a5 b e A c hs A1 c1 s w hl hc hl1 hc1 hz8 hbig hne he1 hgn
          · rw [hv] at hgn
            rw [Bool.and_eq_true, decide_eq_true_eq] at hv
            obtain ⟨h300, hrow, hpc⟩ := hfb hv.1
            obtain ⟨_, rfl⟩ := hv
            have hpc := hpc rfl
            obtain ⟨n, hn⟩ := Core.ns_ex (show 0 ≤ e by omega)
            obtain ⟨hle, hnext⟩ := pc_next he1 hn
            have hnl : n ≤ hs.length := by omega
            have ht := tot_le hs hrow
            have ht2 := Core.stepL_tot (d := []) (hcF_len a0 a2 a5) hs s n hnl
            have hll : (stepL (hcF a0 a2 a5) [] n hs s).length = hs.length - n + 1 := Core.stepL_len _ _ _ _ _
            have hrow2 : ∀ h ∈ stepL (hcF a0 a2 a5) [] n hs s, h.length ≤ 3000000000 := fun h hh => by
              have := Core.tot_mem List.length hh
              omega
            exact Qr.ll6 (K + 1 + 1) a0 a1 a2 a3 a4 a5 e A c hs A1 c1 s w hl hc hl1 hc1 HG 1000 _ (hs.length - n) _ hz8 hbig hne he1 hgn h300
              (texts_ok hs 1000 (by omega) (by omega) (fun x hx => by have := hrow x hx; omega))
              (texts_ok [s] 1000 (by simp) (by simp) (fun x hx => by obtain rfl := List.mem_singleton.1 hx; omega))
              (texts_ok _ 1000 (by omega) (by omega) (fun x hx => by have := hrow2 x hx; omega))
              (by rw [hpc]; exact rsize_zero e he) (rsize_one e he1) (by rw [hll, hpc, ← hnext]; exact rsize_zero (e + 1) he1)
              (mstep_of a0 a1 a2 a3 a4 a5 hs s (Nat.zero_le _) he1 hn hnl (by omega)) hll (by omega) hrow2 (root_step a0 a2 a5 hs s n hnl)
              (vi_last a0 a1 a2 a3 a4 a5 e he1 s hs (by omega) hne hpc h300 hrow)
        · exact Qr.ll4 (K + 1 + 1) a0 a1 a2 a3 a4 a5 b e A c hs A1 c1 s w hl hc hl1 hc1 hz8 hbig hne (by omega)
      · exact Qr.ll3 (K + 1 + 1) a0 a1 a2 a3 a4 a5 b e A c hs A1 c1 s w hl hc hl1 hc1 hz8 hbig hne
    · exact Qr.ll2 (K + 1 + 1) a0 a1 a2 a3 a4 a5 b e A c hs A1 c1 s w hl hc hl1 hc1 hz8 (by omega)
end Go.Proofs.YtfhcpniibiobgaaDoor.Pure
