/- The law FnRootIsChain: its tests ahead, and the walk of the whole. -/
import Derived.Test.YtfhcpniibiobgaaDoorEg
import Derived.Test.YtfhcpniibiobgaaDoorPj
import Derived.Test.YtfhcpniibiobgaaDoorNodN
import Derived.Test.YtfhcpniibiobgaaDoorRz
namespace Go.Proofs.YtfhcpniibiobgaaDoor.Pure
open Go.RowKit Go.Proofs.YtfhcpniibiobgaaDoorW.PrintWords Go.Proofs.YtfhcpniibiobgaaDoorW.PrintMore Go.Proofs.YtfhcpniibiobgaaDoorW.PrintLast
open Hs (CB CL)
open Go.Proofs.YtfhcpniibiobgaaDoor.M (nodesN leftN rightN)

theorem nat_of_wf {x : Int} (h : (Lit.int .u64 x).wf = true) : ∃ n : Nat, x = (n : Int) ∧ n < 18446744073709551616 := by
  have h2 : IntKind.u64.min ≤ x ∧ x ≤ IntKind.u64.max := by simpa [Lit.wf] using h
  have e1 : IntKind.u64.min = 0 := rfl
  have e2 : IntKind.u64.max = 18446744073709551615 := rfl
  exact ⟨x.toNat, by omega, by omega⟩
theorem texts_go (L : List (List Int)) (hL : L.length ≤ 5864062014804) (hrow : ∀ x ∈ L, x.length < 140737488355328) : ∀ (m j k : Nat), j + m = L.length → m < k → Qf.impl_texts.l0 k (L.take j) L (L.length : Int) (j : Int) = some L
  | 0, j, k + 1, h, _ => by
    unfold Qf.impl_texts.l0
    rw [if_neg (by omega), List.take_of_length_le (by omega)]
  | m + 1, j, k + 1, h, hk => by
    have hj : j < L.length := by omega
    have hx : Qf.rd_L1 L (j : Int) = L[j] := by
      show L.getD (j : Int).toNat [] = L[j]
      rw [Int.toNat_natCast, List.getD_eq_getElem?_getD, List.getElem?_eq_getElem hj]
      rfl
    unfold Qf.impl_texts.l0
    rw [if_pos (by omega), if_pos (by omega), if_pos (by omega), Option.bind_some, hx, List.nil_append, if_pos (by have := hrow L[j] (List.getElem_mem hj); simpa using this), if_pos (by rw [List.length_take]; omega), ← List.take_succ_eq_append_getElem hj, w64p _ (by omega), show ((j : Int) + 1) = ((j + 1 : Nat) : Int) by omega]
    exact texts_go L hL hrow m (j + 1) k (by omega) (by omega)
theorem texts_ok (L : List (List Int)) (k : Nat) (hk : L.length < k) (hL : L.length ≤ 5864062014804) (hrow : ∀ x ∈ L, x.length < 140737488355328) : Qf.impl_texts.f k L = some L := texts_go L hL hrow L.length 0 k (by omega) hk
theorem nodes_up (b e : Int) (l : List Qf.S52) (k : Nat) (h : Qf.spec_Nodes.f k b e = some l) : ∀ d, Qf.spec_Nodes.f (k + d) b e = some l
  | 0 => h
  | d + 1 => Qf.spec_Nodes.mono b e (k + d) l (nodes_up b e l k h d)
theorem rightN_pos (e R : Nat) (h : R ≠ 0) : 0 < (rightN 64 e R).length := by
  rw [rightN, if_neg h]
  simp
theorem rootIsChain (a0 a1 a2 a3 a4 a5 x1 x2 : Int) (A : Option Addr) (c : Nat) (hs : List (List Int)) (w : World) (wa : (Lit.int .u64 x1).wf = true) (wb : (Lit.int .u64 x2).wf = true) (hl : CL w A hs) (hc : hs.length ≤ c) (HG : Glob w) :
    Calls Tryd.prog 4 #[.agg #[.int .i64 a0, .int .i64 a1, .int .i64 a2, .int .u64 a3, .int .u64 a4, .int .u64 a5], .agg #[.int .u64 x1, .int .u64 x2, .slice A hs.length c]] w fun e w' => e = .returned (.bool true) ∧ Below w.heap.size w w' := by
  obtain ⟨b, rfl, hb⟩ := nat_of_wf wa
  obtain ⟨e, rfl, he⟩ := nat_of_wf wb
  obtain ⟨k1, nd, hnd⟩ : ∃ (k1 : Nat) (nd : List Qf.S52), b ≤ e → (Qf.spec_Nodes.f k1 (b : Int) (e : Int) = some nd ∧ Qf.compact_RangeSize.f (b : Int) (e : Int) = some (nd.length : Int) ∧ (b = 0 → e ≠ 0 → 0 < nd.length)) := by
    by_cases hbe : b ≤ e
    · obtain ⟨L, R, M, d, hf, hm⟩ := decompose_of b e hbe he
      obtain ⟨k1, hk1⟩ := nodes_of hm he
      refine ⟨k1, _, fun _ => ⟨hk1, ?_, fun h0 h1 => ?_⟩⟩
      · rw [List.length_map]
        exact size_of hf hm he
      · have hL := hm.zero h0
        have h2 := hm.lo
        have h3 := hm.hi
        have hp := rightN_pos e R (by omega)
        rw [List.length_map, nodesN, List.length_append]
        omega
    · exact ⟨0, [], fun h => absurd h hbe⟩
  obtain ⟨K, hK⟩ : ∃ K, K = k1 + 2147483648 := ⟨_, rfl⟩
  obtain ⟨zb, hz, hzl⟩ := zz_f hs K (by omega)
  have hz7 : Qf.laws_zzFits7.f K (b : Int) (e : Int) hs = some zb := by
    unfold Qf.laws_zzFits7.f
    rw [hz, Option.bind_some]
    cases zb <;> rfl
  cases zb with
  | false => exact Qf.rc1 K a0 a1 a2 a3 a4 a5 b e A c hs w hl hc hz7
  | true =>
    have hlen := hzl rfl
    by_cases hbe : b ≤ e
    · obtain ⟨hn, hsz, hpos⟩ := hnd hbe
      have hnK : Qf.spec_Nodes.f K (b : Int) (e : Int) = some nd := by rw [hK]; exact nodes_up _ _ _ _ hn _
      have hpr : Qf.spec_ProperRange.f K (b : Int) (e : Int) hs = some ((hs.length : Int) == (nd.length : Int)) := by
        unfold Qf.spec_ProperRange.f
        rw [if_pos (by omega), hnK, Option.bind_some]
      obtain ⟨pb, hp, hpl⟩ := small_f hs hlen K (by omega)
      by_cases hq : hs.length = nd.length
      · have hrf : Qf.laws_rangeFair.f K (b : Int) (e : Int) hs = some pb := by
          unfold Qf.laws_rangeFair.f
          rw [hpr, Option.bind_some, if_pos (by rw [hq]; simp), hp, Option.bind_some]
        cases pb with
        | false => exact Qf.rc2 K a0 a1 a2 a3 a4 a5 b e A c hs w hl hc hz7 hrf
        | true =>
          obtain ⟨h300, hrow⟩ := hpl rfl
          by_cases hb0 : b = 0
          · by_cases he0 : e = 0
            · exact Qf.rc4 K a0 a1 a2 a3 a4 a5 b e A c hs w hl hc hz7 hrf hb0 he0
            · have hp1 := hpos hb0 he0
              subst hb0
              exact Qf.rc5 K a0 a1 a2 a3 a4 a5 0 e A c hs w hl hc (hs.length - 1) (hs.length + 1) rfl he0 he (by omega) (by omega) hrow HG (texts_ok hs _ (by omega) (by omega) (fun x hx => by have := hrow x hx; omega)) (texts_ok _ _ (by rw [List.length_reverse, List.length_take]; omega) (by rw [List.length_reverse, List.length_take]; omega) (fun x hx => by have := hrow x (List.mem_of_mem_take (List.mem_reverse.1 hx)); omega)) (by rw [hsz, hq]) hz7 hrf
          · exact Qf.rc3 K a0 a1 a2 a3 a4 a5 b e A c hs w hl hc hz7 hrf hb0
      · have hrf : Qf.laws_rangeFair.f K (b : Int) (e : Int) hs = some false := by
          unfold Qf.laws_rangeFair.f
          rw [hpr, Option.bind_some, if_neg (by simpa using (show ¬ (hs.length : Int) = nd.length by omega))]
        exact Qf.rc2 K a0 a1 a2 a3 a4 a5 b e A c hs w hl hc hz7 hrf
    · have hrf : Qf.laws_rangeFair.f K (b : Int) (e : Int) hs = some false := by
        unfold Qf.laws_rangeFair.f Qf.spec_ProperRange.f
        rw [if_neg (by omega), Option.bind_some, if_neg (by simp)]
      exact Qf.rc2 K a0 a1 a2 a3 a4 a5 b e A c hs w hl hc hz7 hrf
end Go.Proofs.YtfhcpniibiobgaaDoor.Pure
