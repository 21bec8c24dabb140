/- The law FnVerifyConsistency: its tests ahead, and the walk of the whole. -/
import Derived.Test.YtfhcpniibiobgaaDoorDl
namespace Go.Proofs.YtfhcpniibiobgaaDoor.Pure
open Go.RowKit Go.Proofs.YtfhcpniibiobgaaDoorW.PrintWords Go.Proofs.YtfhcpniibiobgaaDoorW.PrintMore Go.Proofs.YtfhcpniibiobgaaDoorW.PrintLast
open Hs (CB CL)

theorem nat_of_wf {x : Int} (h : (Lit.int .u64 x).wf = true) : ∃ n : Nat, x = (n : Int) ∧ n < 18446744073709551616 := by
  have h2 : IntKind.u64.min ≤ x ∧ x ≤ IntKind.u64.max := by simpa [Lit.wf] using h
  have e1 : IntKind.u64.min = 0 := rfl
  have e2 : IntKind.u64.max = 18446744073709551615 := rfl
  exact ⟨x.toNat, by omega, by omega⟩
theorem consistency (a0 a1 a2 a3 a4 a5 x1 x2 : Int) (A3 : Option Addr) (c3 : Nat) (b3 : List (List Int)) (A4 : Option Addr) (c4 : Nat) (b4 : List Int) (A5 : Option Addr) (c5 : Nat) (b5 : List Int) (w : World) (wa : (Lit.int .u64 x1).wf = true) (wb : (Lit.int .u64 x2).wf = true)
    (h3 : CL w A3 b3) (e3 : b3.length ≤ c3) (h4 : CB w A4 b4) (e4 : b4.length ≤ c4) (h5 : CB w A5 b5) (e5 : b5.length ≤ c5) (HG : Glob w) :
    Calls Tryd.prog 5 #[.agg #[.int .i64 a0, .int .i64 a1, .int .i64 a2, .int .u64 a3, .int .u64 a4, .int .u64 a5], .int .u64 x1, .int .u64 x2, .slice A3 b3.length c3, .slice A4 b4.length c4, .slice A5 b5.length c5] w fun e w' => e = .returned (.bool true) ∧ Below w.heap.size w w' := by
  obtain ⟨s1, rfl, hs1⟩ := nat_of_wf wa
  obtain ⟨s2, rfl, hs2⟩ := nat_of_wf wb
  obtain ⟨K, hK⟩ : ∃ K, K = 2147483648 := ⟨_, rfl⟩
  obtain ⟨zb, hz, hzl⟩ := zz_f b3 K (by omega)
  by_cases hzb : zb = true
  · obtain ⟨pb, hp, hpl⟩ := small_f b3 (hzl hzb) K (by omega)
    exact Qf.law_all K a0 a1 a2 a3 a4 a5 s1 s2 hs1 hs2 A3 c3 b3 A4 c4 b4 A5 c5 b5 w h3 e3 h4 e4 h5 e5 HG zb pb hz (fun _ => hp) hpl
  · exact Qf.law_all K a0 a1 a2 a3 a4 a5 s1 s2 hs1 hs2 A3 c3 b3 A4 c4 b4 A5 c5 b5 w h3 e3 h4 e4 h5 e5 HG zb false hz (fun h => absurd h hzb) (fun h => by cases h)
end Go.Proofs.YtfhcpniibiobgaaDoor.Pure
