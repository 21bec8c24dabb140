-- Written by wip/tools/myprint.py for this seat (the kit's print with changes); Lean checks it.
import Derived.Test.YtfhcpniibiobgaaProg
import Derived.Below
import Derived.Deep.Draws
import Derived.Deep.AppendLies
import Derived.Maps.AppendAt
import Derived.OwnWalk
import Derived.Laws.BytesArg
import Derived.Laws.MakeOwn
import Derived.Laws.OwnMore
import Derived.Deep.OwnRows
import Derived.Tactics
import Derived.Lib.ConvBytes
import Derived.Laws.Slices
import Derived.WalkKit
import Derived.KernelRfl
import Derived.RowKit3
import Derived.Deep.LoopGhost
import Derived.Deep.QuietTactic
import Derived.BigQuiet
import Derived.WideLaws
import Derived.Deep.DeepCutAuto
import Derived.Deep.CutBlock
import Derived.Deep.RegionHeld3
import Derived.Laws.Rows
import Derived.Lib.AppendStr
import Derived.ArgAppend
import Derived.Laws.IdiomCopy
import Derived.OrdersHeld
import Derived.Laws.BitsLemmas
import Derived.RowKit
import Derived.Test.YtfhcpniibiobgaaVj
import Derived.Test.YtfhcpniibiobgaaWWords
import Derived.Test.YtfhcpniibiobgaaWLast
import Derived.Test.YtfhcpniibiobgaaWTab
import Derived.Test.YtfhcpniibiobgaaWFour
import Derived.Test.YtfhcpniibiobgaaWQPut
import Derived.Test.YtfhcpniibiobgaaWApart
import Derived.Test.YtfhcpniibiobgaaWArr
import Derived.Test.YtfhcpniibiobgaaWZeros
import Derived.Test.YtfhcpniibiobgaaWFoot
import Derived.Test.YtfhcpniibiobgaaWKept
import Derived.Test.YtfhcpniibiobgaaWShare
import Derived.Test.YtfhcpniibiobgaaWN
import Derived.Test.YtfhcpniibiobgaaWFootNe
import Derived.Test.YtfhcpniibiobgaaWAt
import Derived.Test.YtfhcpniibiobgaaWEqStruct
import Derived.Test.YtfhcpniibiobgaaWRepsOne
import Derived.Test.YtfhcpniibiobgaaWInv
import Derived.Test.YtfhcpniibiobgaaWInvWords
import Derived.Test.YtfhcpniibiobgaaWGuard
import Derived.Test.YtfhcpniibiobgaaWNEv
import Derived.Test.YtfhcpniibiobgaaWMore
namespace Go.Proofs.Ytfhcpniibiobgaa.Qg
open Go.RowKit Go.Proofs.YtfhcpniibiobgaaW.PrintWords Go.Proofs.YtfhcpniibiobgaaW.PrintLast Go.Proofs.YtfhcpniibiobgaaW.PrintMore
attribute [local go_sem] max2_int min2_int max_two min_two max_three min_three max_four min_four   -- for this text's walks alone
set_option linter.unusedVariables false
set_option linter.unusedSimpArgs false



def errW : Option Int → Value
  | none => .nilIface
  | some c => .iface 0 (.int .i64 c)
theorem errW_none : errW none = .nilIface := rfl
theorem errW_some (c : Int) : errW (some c) = .iface 0 (.int .i64 c) := rfl

theorem info5 : (Try.prog.info? 5).map (fun i => (i.zero, i.size, i.bytes)) = some (some (.int .u8 0), 1, 1) := by kernel_rfl
theorem info25 : (Try.prog.info? 25).map (fun i => (i.zero, i.size, i.bytes)) = some (some (.slice none 0 0), 1, 24) := by kernel_rfl
theorem info49 : (Try.prog.info? 49).map (fun i => (i.zero, i.size, i.bytes)) = some (some (.agg #[(.int .u64 0), (.int .u64 0)]), 2, 16) := by kernel_rfl
-- the values' own types
def rd_L1 (xs : List (List Int)) (i : Int) : (List Int) := xs.getD i.toNat ([] : List Int)
theorem at_L1 {w : World} {A : Option Addr} {n : Nat} {xs : List (List Int)} (h : Kd.C (Kd.slice 5 (Kd.int .u8)) w A n xs) (i : Int) (h0 : 0 ≤ i) (h1 : i < n) : ∃ ad A0 c0, A = some ad ∧ w.cell? (ad.add i.toNat) = some (.slice A0 (rd_L1 xs i).length c0) ∧ (rd_L1 xs i).length ≤ c0 ∧ (Kd.int .u8).C w A0 (rd_L1 xs i).length (rd_L1 xs i) := by
  obtain ⟨ad, c, e, _, hK, hc0⟩ := Kd.C_get h ([] : List Int) i h0 h1
  have hc : ∀ j u, c[j]? = some u → w.cell? (ad.add (i.toNat * 1 + j)) = some u := hc0
  obtain ⟨A0, c0, rfl, l0, g0⟩ := hK
  exact ⟨ad, A0, c0, e, by have hq := hc 0 _ rfl; rwa [Nat.mul_one, Nat.add_zero] at hq, l0, g0⟩

/-! #### struct type 24 -/
structure S24 where
  f0 : Int
  f1 : Int
  f2 : Int
  f3 : Int
  f4 : Int
  f5 : Int
def z24 : S24 := ⟨(0 : Int), (0 : Int), (0 : Int), (0 : Int), (0 : Int), (0 : Int)⟩
def k24 : Kd S24 := Kd.iso (Kd.pair (Kd.int .i64) (Kd.pair (Kd.int .i64) (Kd.pair (Kd.int .i64) (Kd.pair (Kd.int .u64) (Kd.pair (Kd.int .u64) (Kd.int .u64)))))) (fun x : S24 => (x.f0, x.f1, x.f2, x.f3, x.f4, x.f5))
theorem k24_heap : Kd.Heap k24 := Kd.heap_iso _ (Kd.heap_pair (Kd.heap_int .i64) (Kd.heap_pair (Kd.heap_int .i64) (Kd.heap_pair (Kd.heap_int .i64) (Kd.heap_pair (Kd.heap_int .u64) (Kd.heap_pair (Kd.heap_int .u64) (Kd.heap_int .u64))))))
theorem k24_open {w : World} {x : S24} {cs : List Value} (h : k24.K w x cs) : cs = [.int .i64 x.f0, .int .i64 x.f1, .int .i64 x.f2, .int .u64 x.f3, .int .u64 x.f4, .int .u64 x.f5] := by
  obtain ⟨_, _, rfl, rfl, ⟨_, _, rfl, rfl, ⟨_, _, rfl, rfl, ⟨_, _, rfl, rfl, ⟨_, _, rfl, rfl, rfl⟩⟩⟩⟩⟩ := h
  exact rfl
theorem k24_openM {w : World} {base : Nat} {ok : Nat → Prop} {x : S24} {cs : List Value} (h : k24.M w base ok x cs) : cs = [.int .i64 x.f0, .int .i64 x.f1, .int .i64 x.f2, .int .u64 x.f3, .int .u64 x.f4, .int .u64 x.f5] := by
  obtain ⟨_, _, rfl, rfl, ⟨_, _, rfl, rfl, ⟨_, _, rfl, rfl, ⟨_, _, rfl, rfl, ⟨_, _, rfl, rfl, rfl⟩⟩⟩⟩⟩ := h
  exact rfl
theorem k24_mk (w : World) (x : S24)  : k24.K w x [.int .i64 x.f0, .int .i64 x.f1, .int .i64 x.f2, .int .u64 x.f3, .int .u64 x.f4, .int .u64 x.f5] := ⟨[.int .i64 x.f0], [.int .i64 x.f1, .int .i64 x.f2, .int .u64 x.f3, .int .u64 x.f4, .int .u64 x.f5], rfl, rfl, ⟨[.int .i64 x.f1], [.int .i64 x.f2, .int .u64 x.f3, .int .u64 x.f4, .int .u64 x.f5], rfl, rfl, ⟨[.int .i64 x.f2], [.int .u64 x.f3, .int .u64 x.f4, .int .u64 x.f5], rfl, rfl, ⟨[.int .u64 x.f3], [.int .u64 x.f4, .int .u64 x.f5], rfl, rfl, ⟨[.int .u64 x.f4], [.int .u64 x.f5], rfl, rfl, rfl⟩⟩⟩⟩⟩
theorem k24_mkM (w : World) (base : Nat) (ok : Nat → Prop) (x : S24)  : k24.M w base ok x [.int .i64 x.f0, .int .i64 x.f1, .int .i64 x.f2, .int .u64 x.f3, .int .u64 x.f4, .int .u64 x.f5] := ⟨[.int .i64 x.f0], [.int .i64 x.f1, .int .i64 x.f2, .int .u64 x.f3, .int .u64 x.f4, .int .u64 x.f5], rfl, rfl, ⟨[.int .i64 x.f1], [.int .i64 x.f2, .int .u64 x.f3, .int .u64 x.f4, .int .u64 x.f5], rfl, rfl, ⟨[.int .i64 x.f2], [.int .u64 x.f3, .int .u64 x.f4, .int .u64 x.f5], rfl, rfl, ⟨[.int .u64 x.f3], [.int .u64 x.f4, .int .u64 x.f5], rfl, rfl, ⟨[.int .u64 x.f4], [.int .u64 x.f5], rfl, rfl, rfl⟩⟩⟩⟩⟩
theorem k24_mkF (W : World) (ok : Nat → Prop) (x : S24) : Kd.FK k24 W ok x [.int .i64 x.f0, .int .i64 x.f1, .int .i64 x.f2, .int .u64 x.f3, .int .u64 x.f4, .int .u64 x.f5] := fun W2 _ => k24_mk W2 x
def rd_T24 (xs : List S24) (i : Int) : S24 := xs.getD i.toNat z24
theorem at_T24 {w : World} {A : Option Addr} {n : Nat} {xs : List S24} (h : Kd.C k24 w A n xs) (i : Int) (h0 : 0 ≤ i) (h1 : i < n) : ∃ ad , A = some ad ∧ w.cell? (ad.add (i.toNat * 6)) = some (.int .i64 (rd_T24 xs i).f0) ∧ w.cell? ⟨(ad.add (i.toNat * 6)).block, (ad.add (i.toNat * 6)).off + 1, none⟩ = some (.int .i64 (rd_T24 xs i).f1) ∧ w.cell? ⟨(ad.add (i.toNat * 6)).block, (ad.add (i.toNat * 6)).off + 2, none⟩ = some (.int .i64 (rd_T24 xs i).f2) ∧ w.cell? ⟨(ad.add (i.toNat * 6)).block, (ad.add (i.toNat * 6)).off + 3, none⟩ = some (.int .u64 (rd_T24 xs i).f3) ∧ w.cell? ⟨(ad.add (i.toNat * 6)).block, (ad.add (i.toNat * 6)).off + 4, none⟩ = some (.int .u64 (rd_T24 xs i).f4) ∧ w.cell? ⟨(ad.add (i.toNat * 6)).block, (ad.add (i.toNat * 6)).off + 5, none⟩ = some (.int .u64 (rd_T24 xs i).f5) := by
  obtain ⟨ad, c, e, _, hK, hc0⟩ := Kd.C_get h z24 i h0 h1
  have hc : ∀ j u, c[j]? = some u → w.cell? (ad.add (i.toNat * 6 + j)) = some u := hc0
  obtain rfl := k24_open hK
  exact ⟨ad, e, hc 0 _ rfl, by rw [← add_field _ _ 1 (by omega)]; exact hc 1 _ rfl, by rw [← add_field _ _ 2 (by omega)]; exact hc 2 _ rfl, by rw [← add_field _ _ 3 (by omega)]; exact hc 3 _ rfl, by rw [← add_field _ _ 4 (by omega)]; exact hc 4 _ rfl, by rw [← add_field _ _ 5 (by omega)]; exact hc 5 _ rfl⟩

def rd_L5 (xs : List (List (List Int))) (i : Int) : (List (List Int)) := xs.getD i.toNat ([] : List (List Int))
theorem at_L5 {w : World} {A : Option Addr} {n : Nat} {xs : List (List (List Int))} (h : Kd.C (Kd.slice 25 (Kd.slice 5 (Kd.int .u8))) w A n xs) (i : Int) (h0 : 0 ≤ i) (h1 : i < n) : ∃ ad A0 c0, A = some ad ∧ w.cell? (ad.add i.toNat) = some (.slice A0 (rd_L5 xs i).length c0) ∧ (rd_L5 xs i).length ≤ c0 ∧ (Kd.slice 5 (Kd.int .u8)).C w A0 (rd_L5 xs i).length (rd_L5 xs i) := by
  obtain ⟨ad, c, e, _, hK, hc0⟩ := Kd.C_get h ([] : List (List Int)) i h0 h1
  have hc : ∀ j u, c[j]? = some u → w.cell? (ad.add (i.toNat * 1 + j)) = some u := hc0
  obtain ⟨A0, c0, rfl, l0, g0⟩ := hK
  exact ⟨ad, A0, c0, e, by have hq := hc 0 _ rfl; rwa [Nat.mul_one, Nat.add_zero] at hq, l0, g0⟩

/-! #### struct type 49 -/
structure S49 where
  f0 : Int
  f1 : Int
def z49 : S49 := ⟨(0 : Int), (0 : Int)⟩
def k49 : Kd S49 := Kd.iso (Kd.pair (Kd.int .u64) (Kd.int .u64)) (fun x : S49 => (x.f0, x.f1))
theorem k49_heap : Kd.Heap k49 := Kd.heap_iso _ (Kd.heap_pair (Kd.heap_int .u64) (Kd.heap_int .u64))
theorem k49_open {w : World} {x : S49} {cs : List Value} (h : k49.K w x cs) : cs = [.int .u64 x.f0, .int .u64 x.f1] := by
  obtain ⟨_, _, rfl, rfl, rfl⟩ := h
  exact rfl
theorem k49_openM {w : World} {base : Nat} {ok : Nat → Prop} {x : S49} {cs : List Value} (h : k49.M w base ok x cs) : cs = [.int .u64 x.f0, .int .u64 x.f1] := by
  obtain ⟨_, _, rfl, rfl, rfl⟩ := h
  exact rfl
theorem k49_mk (w : World) (x : S49)  : k49.K w x [.int .u64 x.f0, .int .u64 x.f1] := ⟨[.int .u64 x.f0], [.int .u64 x.f1], rfl, rfl, rfl⟩
theorem k49_mkM (w : World) (base : Nat) (ok : Nat → Prop) (x : S49)  : k49.M w base ok x [.int .u64 x.f0, .int .u64 x.f1] := ⟨[.int .u64 x.f0], [.int .u64 x.f1], rfl, rfl, rfl⟩
theorem k49_mkF (W : World) (ok : Nat → Prop) (x : S49) : Kd.FK k49 W ok x [.int .u64 x.f0, .int .u64 x.f1] := fun W2 _ => k49_mk W2 x
def rd_T49 (xs : List S49) (i : Int) : S49 := xs.getD i.toNat z49
theorem at_T49 {w : World} {A : Option Addr} {n : Nat} {xs : List S49} (h : Kd.C k49 w A n xs) (i : Int) (h0 : 0 ≤ i) (h1 : i < n) : ∃ ad , A = some ad ∧ w.cell? (ad.add (i.toNat * 2)) = some (.int .u64 (rd_T49 xs i).f0) ∧ w.cell? ⟨(ad.add (i.toNat * 2)).block, (ad.add (i.toNat * 2)).off + 1, none⟩ = some (.int .u64 (rd_T49 xs i).f1) := by
  obtain ⟨ad, c, e, _, hK, hc0⟩ := Kd.C_get h z49 i h0 h1
  have hc : ∀ j u, c[j]? = some u → w.cell? (ad.add (i.toNat * 2 + j)) = some u := hc0
  obtain rfl := k49_open hK
  exact ⟨ad, e, hc 0 _ rfl, by rw [← add_field _ _ 1 (by omega)]; exact hc 1 _ rfl⟩

end Go.Proofs.Ytfhcpniibiobgaa.Qg
