/- Words for the walks by hand: bytes and lists of byte slices that are read. -/
import Derived.Test.YtfhcpniibiobgaaDoorProg
import Derived.Below
import Derived.Deep.Draws
import Derived.Deep.AppendLies
import Derived.Maps.AppendAt
import Derived.OwnWalk
import Derived.Laws.BytesArg
import Derived.Laws.MakeOwn
import Derived.Laws.OwnMore
import Derived.Deep.OwnRows
import Derived.Tactics
import Derived.Lib.ConvBytes
import Derived.Laws.Slices
import Derived.WalkKit
import Derived.KernelRfl
import Derived.RowKit3
import Derived.Deep.LoopGhost
import Derived.Deep.QuietTactic
import Derived.BigQuiet
import Derived.WideLaws
import Derived.Deep.DeepCutAuto
import Derived.Deep.CutBlock
import Derived.Deep.RegionHeld3
import Derived.Laws.Rows
import Derived.Lib.AppendStr
import Derived.ArgAppend
import Derived.Laws.IdiomCopy
import Derived.OrdersHeld
import Derived.Laws.BitsLemmas
import Derived.RowKit
import Derived.Test.YtfhcpniibiobgaaDoorShelf
import Derived.Test.YtfhcpniibiobgaaDoorWMore
namespace Go.Proofs.YtfhcpniibiobgaaDoor.Hs
open Go.RowKit Go.Proofs.YtfhcpniibiobgaaDoorW.PrintWords Go.Proofs.YtfhcpniibiobgaaDoorW.PrintLast Go.Proofs.YtfhcpniibiobgaaDoorW.PrintMore
theorem bcell {W w1 : World} (hb : Below W.heap.size W w1) : (∀ b o, b < W.heap.size → w1.cell? ⟨b, o, none⟩ = W.cell? ⟨b, o, none⟩) ∧ (∀ b o, b < W.heap.size → w1.frozen? ⟨b, o, none⟩ = W.frozen? ⟨b, o, none⟩) :=
  ⟨fun b o h => hb.cell (p := ⟨b, o, none⟩) h, fun b o h => hb.frozen (p := ⟨b, o, none⟩) h⟩
abbrev CB (w : World) (A : Option Addr) (l : List Int) : Prop := Kd.C (Kd.int .u8) w A l.length l
abbrev CL (w : World) (A : Option Addr) (l : List (List Int)) : Prop := Kd.C (Kd.slice 5 (Kd.int .u8)) w A l.length l
theorem at_B {w : World} {A : Option Addr} {l : List Int} (h : CB w A l) (i : Nat) (hi : i < l.length) : ∃ ad, A = some ad ∧ w.cell? (ad.add i) = some (.int .u8 (l.getD i 0)) := by
  obtain ⟨ad, c, e, _, hK, hc0⟩ := Kd.C_get h (0 : Int) (i : Int) (by omega) (by omega)
  simp only [Int.toNat_natCast] at hK hc0
  have hc : ∀ j u, c[j]? = some u → w.cell? (ad.add (i * 1 + j)) = some u := hc0
  have hK' : c = [Value.int .u8 (l.getD i 0)] := hK
  subst hK'
  have hq := hc 0 _ rfl
  rw [Nat.mul_one, Nat.add_zero] at hq
  exact ⟨ad, e, hq⟩
theorem at_L {w : World} {A : Option Addr} {l : List (List Int)} (h : CL w A l) (i : Nat) (hi : i < l.length) : ∃ ad A0 c0, A = some ad ∧ w.cell? (ad.add i) = some (.slice A0 (l.getD i []).length c0) ∧ (l.getD i []).length ≤ c0 ∧ CB w A0 (l.getD i []) := by
  obtain ⟨ad, c, e, _, hK, hc0⟩ := Kd.C_get h ([] : List Int) (i : Int) (by omega) (by omega)
  simp only [Int.toNat_natCast] at hK hc0
  have hc : ∀ j u, c[j]? = some u → w.cell? (ad.add (i * 1 + j)) = some u := hc0
  obtain ⟨A0, c0, rfl, l0, g0⟩ := hK
  exact ⟨ad, A0, c0, e, by have hq := hc 0 _ rfl; rwa [Nat.mul_one, Nat.add_zero] at hq, l0, g0⟩
theorem infoB : (Tryd.prog.info? 5).map (fun i => (i.zero, i.size, i.bytes)) = some (some (.int .u8 0), 1, 1) := by kernel_rfl
theorem infoL : (Tryd.prog.info? 28).map (fun i => (i.zero, i.size, i.bytes)) = some (some (.slice none 0 0), 1, 24) := by kernel_rfl
theorem R_of_blk {w : World} {base g : Nat} {ok : Nat → Prop} {l : List Int} (hb : base ≤ g) (hok : ok g) (h : w.heap[g]? = some (.cells ((l.map (Value.int .u8)).toArray) 5 (0, 0))) (hl : l.length ≤ 140737488351232) :
    Kd.R (Kd.int .u8) 5 w base ok (.slice (some ⟨g, 0, none⟩) l.length l.length) l := by
  refine ⟨fun k hk => ?_, l.map (Value.int .u8), ⟨by show _ = _ * 1; simp, .inr ⟨g, l.length, _, rfl, hb, h, Nat.le_refl _, by unfold maxLen; omega, by show _ = _ * 1; simp, by show List.take (l.length * 1) _ = _; rw [Nat.mul_one]; exact List.take_of_length_le (by simp)⟩⟩, by show _ = _ * 1; simp, fun j p hj => ?_⟩
  · have : g = k := by simpa [Value.ownBlock] using hk
    subst this
    exact hok
  · show ((l.map (Value.int .u8)).drop (j * 1)).take 1 = [Value.int .u8 p]
    obtain ⟨hjl, hp⟩ := List.getElem?_eq_some_iff.1 hj
    rw [Nat.mul_one, List.drop_eq_getElem_cons (by rw [List.length_map]; exact hjl), List.take_succ_cons, List.take_zero, List.getElem_map, hp]
theorem cells_at (l : List Int) (i : Nat) (h : i < l.length) : ((l.map (Value.int .u8)).toArray)[i]? = some (.int .u8 (l.getD i 0)) := by
  rw [List.getElem?_toArray, List.getElem?_map, List.getElem?_eq_getElem h, List.getD_eq_getElem?_getD, List.getElem?_eq_getElem h]
  rfl
theorem cells_set (l : List Int) (i : Nat) (x : Int) : ((l.map (Value.int .u8)).toArray).setIfInBounds i (.int .u8 x) = ((l.set i x).map (Value.int .u8)).toArray := by
  rw [List.setIfInBounds_toArray, List.map_set]
end Go.Proofs.YtfhcpniibiobgaaDoor.Hs
