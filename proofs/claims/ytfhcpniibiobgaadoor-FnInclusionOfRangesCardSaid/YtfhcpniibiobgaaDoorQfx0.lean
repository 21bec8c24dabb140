-- Written by wip/tools/myprint.py for this seat (the kit's print with changes); Lean checks it.
import Derived.Test.YtfhcpniibiobgaaDoorProg
import Derived.Below
import Derived.Deep.Draws
import Derived.Deep.AppendLies
import Derived.Maps.AppendAt
import Derived.OwnWalk
import Derived.Laws.BytesArg
import Derived.Laws.MakeOwn
import Derived.Laws.OwnMore
import Derived.Deep.OwnRows
import Derived.Tactics
import Derived.Lib.ConvBytes
import Derived.Laws.Slices
import Derived.WalkKit
import Derived.KernelRfl
import Derived.RowKit3
import Derived.Deep.LoopGhost
import Derived.Deep.QuietTactic
import Derived.BigQuiet
import Derived.WideLaws
import Derived.Deep.DeepCutAuto
import Derived.Deep.CutBlock
import Derived.Deep.RegionHeld3
import Derived.Laws.Rows
import Derived.Lib.AppendStr
import Derived.ArgAppend
import Derived.Laws.IdiomCopy
import Derived.OrdersHeld
import Derived.Laws.BitsLemmas
import Derived.RowKit
import Derived.Test.YtfhcpniibiobgaaDoorHs
import Derived.Test.YtfhcpniibiobgaaDoorGlob
import Derived.Test.YtfhcpniibiobgaaDoorV
import Derived.Test.YtfhcpniibiobgaaDoorWWords
import Derived.Test.YtfhcpniibiobgaaDoorWLast
import Derived.Test.YtfhcpniibiobgaaDoorWTab
import Derived.Test.YtfhcpniibiobgaaDoorWFour
import Derived.Test.YtfhcpniibiobgaaDoorWQPut
import Derived.Test.YtfhcpniibiobgaaDoorWApart
import Derived.Test.YtfhcpniibiobgaaDoorWArr
import Derived.Test.YtfhcpniibiobgaaDoorWZeros
import Derived.Test.YtfhcpniibiobgaaDoorWFoot
import Derived.Test.YtfhcpniibiobgaaDoorWKept
import Derived.Test.YtfhcpniibiobgaaDoorWShare
import Derived.Test.YtfhcpniibiobgaaDoorWN
import Derived.Test.YtfhcpniibiobgaaDoorWFootNe
import Derived.Test.YtfhcpniibiobgaaDoorWAt
import Derived.Test.YtfhcpniibiobgaaDoorWEqStruct
import Derived.Test.YtfhcpniibiobgaaDoorWRepsOne
import Derived.Test.YtfhcpniibiobgaaDoorWInv
import Derived.Test.YtfhcpniibiobgaaDoorWInvWords
import Derived.Test.YtfhcpniibiobgaaDoorWGuard
import Derived.Test.YtfhcpniibiobgaaDoorWNEv
import Derived.Test.YtfhcpniibiobgaaDoorWMore
namespace Go.Proofs.YtfhcpniibiobgaaDoor.Qf
open Go.RowKit Go.Proofs.YtfhcpniibiobgaaDoorW.PrintWords Go.Proofs.YtfhcpniibiobgaaDoorW.PrintLast Go.Proofs.YtfhcpniibiobgaaDoorW.PrintMore
attribute [local go_sem] max2_int min2_int max_two min_two max_three min_three max_four min_four
set_option linter.unusedVariables false
set_option linter.unusedSimpArgs false
def errW : Option Int → Value
  | none => .nilIface
  | some c => .iface 0 (.int .i64 c)
theorem errW_none : errW none = .nilIface := rfl
theorem errW_some (c : Int) : errW (some c) = .iface 0 (.int .i64 c) := rfl
theorem info5 : (Tryd.prog.info? 5).map (fun i => (i.zero, i.size, i.bytes)) = some (some (.int .u8 0), 1, 1) := by kernel_rfl
theorem info28 : (Tryd.prog.info? 28).map (fun i => (i.zero, i.size, i.bytes)) = some (some (.slice none 0 0), 1, 24) := by kernel_rfl
theorem info52 : (Tryd.prog.info? 52).map (fun i => (i.zero, i.size, i.bytes)) = some (some (.agg #[(.int .u64 0), (.int .u64 0)]), 2, 16) := by kernel_rfl
theorem info55 : (Tryd.prog.info? 55).map (fun i => (i.zero, i.size, i.bytes)) = some (some (.agg #[(.int .u64 0), (.int .u64 0)]), 2, 16) := by kernel_rfl
theorem info58 : (Tryd.prog.info? 58).map (fun i => (i.zero, i.size, i.bytes)) = some (some (.agg #[(.int .u64 0), (.int .u64 0), (.slice none 0 0)]), 3, 40) := by kernel_rfl
theorem info108 : (Tryd.prog.info? 108).map (fun i => (i.zero, i.size, i.bytes)) = some (some (.agg #[(.int .u64 0), (.int .u64 0)]), 2, 16) := by kernel_rfl
def rd_L1 (xs : List (List Int)) (i : Int) : (List Int) := xs.getD i.toNat ([] : List Int)
theorem at_L1 {w : World} {A : Option Addr} {n : Nat} {xs : List (List Int)} (h : Kd.C (Kd.slice 5 (Kd.int .u8)) w A n xs) (i : Int) (h0 : 0 ≤ i) (h1 : i < n) : ∃ ad A0 c0, A = some ad ∧ w.cell? (ad.add i.toNat) = some (.slice A0 (rd_L1 xs i).length c0) ∧ (rd_L1 xs i).length ≤ c0 ∧ (Kd.int .u8).C w A0 (rd_L1 xs i).length (rd_L1 xs i) := by
  obtain ⟨ad, c, e, _, hK, hc0⟩ := Kd.C_get h ([] : List Int) i h0 h1
  have hc : ∀ j u, c[j]? = some u → w.cell? (ad.add (i.toNat * 1 + j)) = some u := hc0
  obtain ⟨A0, c0, rfl, l0, g0⟩ := hK
  exact ⟨ad, A0, c0, e, by have hq := hc 0 _ rfl; rwa [Nat.mul_one, Nat.add_zero] at hq, l0, g0⟩
structure S52 where
  f0 : Int
  f1 : Int
def z52 : S52 := ⟨(0 : Int), (0 : Int)⟩
def k52 : Kd S52 := Kd.iso (Kd.pair (Kd.int .u64) (Kd.int .u64)) (fun x : S52 => (x.f0, x.f1))
theorem k52_open {w : World} {x : S52} {cs : List Value} (h : k52.K w x cs) : cs = [.int .u64 x.f0, .int .u64 x.f1] := by
  obtain ⟨_, _, rfl, rfl, rfl⟩ := h
  exact rfl
theorem k52_mk (w : World) (x : S52)  : k52.K w x [.int .u64 x.f0, .int .u64 x.f1] := ⟨[.int .u64 x.f0], [.int .u64 x.f1], rfl, rfl, rfl⟩
theorem k52_mkM (w : World) (base : Nat) (ok : Nat → Prop) (x : S52)  : k52.M w base ok x [.int .u64 x.f0, .int .u64 x.f1] := ⟨[.int .u64 x.f0], [.int .u64 x.f1], rfl, rfl, rfl⟩
def rd_T52 (xs : List S52) (i : Int) : S52 := xs.getD i.toNat z52
theorem at_T52 {w : World} {A : Option Addr} {n : Nat} {xs : List S52} (h : Kd.C k52 w A n xs) (i : Int) (h0 : 0 ≤ i) (h1 : i < n) : ∃ ad , A = some ad ∧ w.cell? (ad.add (i.toNat * 2)) = some (.int .u64 (rd_T52 xs i).f0) ∧ w.cell? ⟨(ad.add (i.toNat * 2)).block, (ad.add (i.toNat * 2)).off + 1, none⟩ = some (.int .u64 (rd_T52 xs i).f1) := by
  obtain ⟨ad, c, e, _, hK, hc0⟩ := Kd.C_get h z52 i h0 h1
  have hc : ∀ j u, c[j]? = some u → w.cell? (ad.add (i.toNat * 2 + j)) = some u := hc0
  obtain rfl := k52_open hK
  exact ⟨ad, e, hc 0 _ rfl, by rw [← add_field _ _ 1 (by omega)]; exact hc 1 _ rfl⟩
structure S35 where
  f0 : Int
  f1 : Int
  f2 : (List (List Int))
def z35 : S35 := ⟨(0 : Int), (0 : Int), ([] : List (List Int))⟩
def k35 : Kd S35 := Kd.iso (Kd.pair (Kd.int .u64) (Kd.pair (Kd.int .u64) (Kd.slice 28 (Kd.slice 5 (Kd.int .u8))))) (fun x : S35 => (x.f0, x.f1, x.f2))
theorem k35_heap : Kd.Heap k35 := Kd.heap_iso _ (Kd.heap_pair (Kd.heap_int .u64) (Kd.heap_pair (Kd.heap_int .u64) (Kd.heap_slice 28 (Kd.heap_slice 5 (Kd.heap_int .u8)))))
theorem k35_open {w : World} {x : S35} {cs : List Value} (h : k35.K w x cs) : ∃ A2 c2, cs = [.int .u64 x.f0, .int .u64 x.f1, .slice A2 x.f2.length c2] ∧ x.f2.length ≤ c2 ∧ (Kd.slice 5 (Kd.int .u8)).C w A2 x.f2.length x.f2 := by
  obtain ⟨_, _, rfl, rfl, ⟨_, _, rfl, rfl, ⟨A2, c2, rfl, l2, g2⟩⟩⟩ := h
  exact ⟨A2, c2, rfl, l2, g2⟩
theorem k35_mk (w : World) (x : S35) {A2 : Option Addr} {c2 : Nat} (l2 : x.f2.length ≤ c2) (g2 : (Kd.slice 5 (Kd.int .u8)).C w A2 x.f2.length x.f2) : k35.K w x [.int .u64 x.f0, .int .u64 x.f1, .slice A2 x.f2.length c2] := ⟨[.int .u64 x.f0], [.int .u64 x.f1, .slice A2 x.f2.length c2], rfl, rfl, ⟨[.int .u64 x.f1], [.slice A2 x.f2.length c2], rfl, rfl, ⟨A2, c2, rfl, l2, g2⟩⟩⟩
theorem k35_openF {W : World} {ok : Nat → Prop} {x : S35} {cs : List Value} (h : Kd.FK k35 W ok x cs) : ∃ A2 c2, cs = [.int .u64 x.f0, .int .u64 x.f1, .slice A2 x.f2.length c2] ∧ x.f2.length ≤ c2 ∧ Kd.F (Kd.slice 5 (Kd.int .u8)) W ok A2 x.f2.length x.f2 := by
  obtain ⟨A2, c2, rfl, l2, _⟩ := k35_open (Kd.FK_now h)
  exact ⟨A2, c2, rfl, l2, (fun W' hW => by obtain ⟨A2_, c2_, he, l2_, g2_⟩ := k35_open (h W' hW); injection (Option.some.inj (show some (Value.slice A2 x.f2.length c2) = some (Value.slice A2_ x.f2.length c2_) from congrArg (fun l => l[2]?) he)) with ha_ _ _; rw [ha_]; exact g2_)⟩
def rd_T35 (xs : List S35) (i : Int) : S35 := xs.getD i.toNat z35
theorem at_T35 {w : World} {A : Option Addr} {n : Nat} {xs : List S35} (h : Kd.C k35 w A n xs) (i : Int) (h0 : 0 ≤ i) (h1 : i < n) : ∃ ad A2 c2, A = some ad ∧ w.cell? (ad.add (i.toNat * 3)) = some (.int .u64 (rd_T35 xs i).f0) ∧ w.cell? ⟨(ad.add (i.toNat * 3)).block, (ad.add (i.toNat * 3)).off + 1, none⟩ = some (.int .u64 (rd_T35 xs i).f1) ∧ w.cell? ⟨(ad.add (i.toNat * 3)).block, (ad.add (i.toNat * 3)).off + 2, none⟩ = some (.slice A2 (rd_T35 xs i).f2.length c2) ∧ (rd_T35 xs i).f2.length ≤ c2 ∧ (Kd.slice 5 (Kd.int .u8)).C w A2 (rd_T35 xs i).f2.length (rd_T35 xs i).f2 := by
  obtain ⟨ad, c, e, _, hK, hc0⟩ := Kd.C_get h z35 i h0 h1
  have hc : ∀ j u, c[j]? = some u → w.cell? (ad.add (i.toNat * 3 + j)) = some u := hc0
  obtain ⟨A2, c2, rfl, l2, g2⟩ := k35_open hK
  exact ⟨ad, A2, c2, e, hc 0 _ rfl, by rw [← add_field _ _ 1 (by omega)]; exact hc 1 _ rfl, by rw [← add_field _ _ 2 (by omega)]; exact hc 2 _ rfl, l2, g2⟩
structure S108 where
  f0 : Int
  f1 : Int
def z108 : S108 := ⟨(0 : Int), (0 : Int)⟩
def k108 : Kd S108 := Kd.iso (Kd.pair (Kd.int .u64) (Kd.int .u64)) (fun x : S108 => (x.f0, x.f1))
theorem k108_open {w : World} {x : S108} {cs : List Value} (h : k108.K w x cs) : cs = [.int .u64 x.f0, .int .u64 x.f1] := by
  obtain ⟨_, _, rfl, rfl, rfl⟩ := h
  exact rfl
theorem k108_openM {w : World} {base : Nat} {ok : Nat → Prop} {x : S108} {cs : List Value} (h : k108.M w base ok x cs) : cs = [.int .u64 x.f0, .int .u64 x.f1] := by
  obtain ⟨_, _, rfl, rfl, rfl⟩ := h
  exact rfl
theorem k108_mkM (w : World) (base : Nat) (ok : Nat → Prop) (x : S108)  : k108.M w base ok x [.int .u64 x.f0, .int .u64 x.f1] := ⟨[.int .u64 x.f0], [.int .u64 x.f1], rfl, rfl, rfl⟩
def rd_T108 (xs : List S108) (i : Int) : S108 := xs.getD i.toNat z108
theorem at_T108 {w : World} {A : Option Addr} {n : Nat} {xs : List S108} (h : Kd.C k108 w A n xs) (i : Int) (h0 : 0 ≤ i) (h1 : i < n) : ∃ ad , A = some ad ∧ w.cell? (ad.add (i.toNat * 2)) = some (.int .u64 (rd_T108 xs i).f0) ∧ w.cell? ⟨(ad.add (i.toNat * 2)).block, (ad.add (i.toNat * 2)).off + 1, none⟩ = some (.int .u64 (rd_T108 xs i).f1) := by
  obtain ⟨ad, c, e, _, hK, hc0⟩ := Kd.C_get h z108 i h0 h1
  have hc : ∀ j u, c[j]? = some u → w.cell? (ad.add (i.toNat * 2 + j)) = some u := hc0
  obtain rfl := k108_open hK
  exact ⟨ad, e, hc 0 _ rfl, by rw [← add_field _ _ 1 (by omega)]; exact hc 1 _ rfl⟩
structure S58 where
  f0 : S52
  f1 : (List Int)
def z58 : S58 := ⟨z52, ([] : List Int)⟩
def k58 : Kd S58 := Kd.iso (Kd.pair k52 (Kd.slice 5 (Kd.int .u8))) (fun x : S58 => (x.f0, x.f1))
theorem k58_open {w : World} {x : S58} {cs : List Value} (h : k58.K w x cs) : ∃ A2 c2, cs = [.int .u64 x.f0.f0, .int .u64 x.f0.f1, .slice A2 x.f1.length c2] ∧ x.f1.length ≤ c2 ∧ (Kd.int .u8).C w A2 x.f1.length x.f1 := by
  obtain ⟨_, _, rfl, s0, ⟨A2, c2, rfl, l2, g2⟩⟩ := h
  obtain rfl := k52_open s0
  exact ⟨A2, c2, rfl, l2, g2⟩
theorem k58_mk (w : World) (x : S58) {A2 : Option Addr} {c2 : Nat} (l2 : x.f1.length ≤ c2) (g2 : (Kd.int .u8).C w A2 x.f1.length x.f1) : k58.K w x [.int .u64 x.f0.f0, .int .u64 x.f0.f1, .slice A2 x.f1.length c2] := ⟨[.int .u64 x.f0.f0, .int .u64 x.f0.f1], [.slice A2 x.f1.length c2], rfl, (k52_mk w x.f0 ), ⟨A2, c2, rfl, l2, g2⟩⟩
theorem k58_openF {W : World} {ok : Nat → Prop} {x : S58} {cs : List Value} (h : Kd.FK k58 W ok x cs) : ∃ A2 c2, cs = [.int .u64 x.f0.f0, .int .u64 x.f0.f1, .slice A2 x.f1.length c2] ∧ x.f1.length ≤ c2 ∧ Kd.F (Kd.int .u8) W ok A2 x.f1.length x.f1 := by
  obtain ⟨A2, c2, rfl, l2, _⟩ := k58_open (Kd.FK_now h)
  exact ⟨A2, c2, rfl, l2, (fun W' hW => by obtain ⟨A2_, c2_, he, l2_, g2_⟩ := k58_open (h W' hW); injection (Option.some.inj (show some (Value.slice A2 x.f1.length c2) = some (Value.slice A2_ x.f1.length c2_) from congrArg (fun l => l[2]?) he)) with ha_ _ _; rw [ha_]; exact g2_)⟩
theorem k58_mkF (W : World) (ok : Nat → Prop) (x : S58) {A2 : Option Addr} {c2 : Nat} (l2 : x.f1.length ≤ c2) (g2 : Kd.F (Kd.int .u8) W ok A2 x.f1.length x.f1) : Kd.FK k58 W ok x [.int .u64 x.f0.f0, .int .u64 x.f0.f1, .slice A2 x.f1.length c2] := fun W2 hW => k58_mk W2 x l2 (g2 W2 hW)
def rd_T58 (xs : List S58) (i : Int) : S58 := xs.getD i.toNat z58
theorem at_T58 {w : World} {A : Option Addr} {n : Nat} {xs : List S58} (h : Kd.C k58 w A n xs) (i : Int) (h0 : 0 ≤ i) (h1 : i < n) : ∃ ad A2 c2, A = some ad ∧ w.cell? (ad.add (i.toNat * 3)) = some (.int .u64 (rd_T58 xs i).f0.f0) ∧ w.cell? ⟨(ad.add (i.toNat * 3)).block, (ad.add (i.toNat * 3)).off + 1, none⟩ = some (.int .u64 (rd_T58 xs i).f0.f1) ∧ w.cell? ⟨(ad.add (i.toNat * 3)).block, (ad.add (i.toNat * 3)).off + 2, none⟩ = some (.slice A2 (rd_T58 xs i).f1.length c2) ∧ (rd_T58 xs i).f1.length ≤ c2 ∧ (Kd.int .u8).C w A2 (rd_T58 xs i).f1.length (rd_T58 xs i).f1 := by
  obtain ⟨ad, c, e, _, hK, hc0⟩ := Kd.C_get h z58 i h0 h1
  have hc : ∀ j u, c[j]? = some u → w.cell? (ad.add (i.toNat * 3 + j)) = some u := hc0
  obtain ⟨A2, c2, rfl, l2, g2⟩ := k58_open hK
  exact ⟨ad, A2, c2, e, hc 0 _ rfl, by rw [← add_field _ _ 1 (by omega)]; exact hc 1 _ rfl, by rw [← add_field _ _ 2 (by omega)]; exact hc 2 _ rfl, l2, g2⟩
structure S55 where
  f0 : Int
  f1 : Int
def k55 : Kd S55 := Kd.iso (Kd.pair (Kd.int .u64) (Kd.int .u64)) (fun x : S55 => (x.f0, x.f1))
theorem k55_mkM (w : World) (base : Nat) (ok : Nat → Prop) (x : S55)  : k55.M w base ok x [.int .u64 x.f0, .int .u64 x.f1] := ⟨[.int .u64 x.f0], [.int .u64 x.f1], rfl, rfl, rfl⟩
end Go.Proofs.YtfhcpniibiobgaaDoor.Qf
