/- Append of one leaf to a range, walked. -/
import Derived.Test.YtfhcpniibiobgaaDoorGd
namespace Go.Proofs.YtfhcpniibiobgaaDoor.Qf
open Go.RowKit Go.Proofs.YtfhcpniibiobgaaDoorW.PrintWords Go.Proofs.YtfhcpniibiobgaaDoorW.PrintLast Go.Proofs.YtfhcpniibiobgaaDoorW.PrintMore
open Hs (CB CL at_L at_B infoB infoL R_of_blk)
set_option maxHeartbeats 4000000 in
set_option maxRecDepth 100000 in
theorem append_of (a0 a1 a2 a3 a4 a5 : Int) (w0 : World) (gr gf gs : Nat) (S : Nat → Prop) (w : World) (b e : Nat) (vr vs : Value) (l l' : List (List Int)) (n0 m : Nat) (As : Option Addr) (cs : Nat) (s : List Int) (h : RSt a0 a1 a2 a3 a4 a5 w0 gr gf gs S w (b : Int) (e : Int) vr vs l n0) (hs : Safe S w As s) (hsl : s.length ≤ 140737488351232) (hn0 : n0 ≤ 1000) (he : e + 1 < 18446744073709551616)
    (hA : ∀ (S1 : Nat → Prop) (w1 : World) (vs1 : Value), RSt a0 a1 a2 a3 a4 a5 w0 gr gf gs S1 w1 (b : Int) (e : Int) vr vs1 l (n0 + 1) → Safe S1 w1 As s →
      Calls Tryd.prog 98 #[.pointer (some ⟨gr, 0, none⟩), .int .u64 ((e : Int) + 1), .slice As s.length cs, .slice none 0 0, .func (.func 64) #[] #[.pointer (some ⟨gs, 0, none⟩)]] w1 fun en w' => ∃ vr' vs' S', en = .returned .nilIface ∧ RSt a0 a1 a2 a3 a4 a5 w0 gr gf gs S' w' (b : Int) ((e : Int) + 1) vr' vs' l' m ∧ Grows S1 S' w1 ∧ KeptS S' w1 w') :
    Calls Tryd.prog 63 #[.pointer (some ⟨gr, 0, none⟩), .slice As s.length cs, .func (.func 64) #[] #[.pointer (some ⟨gs, 0, none⟩)]] w fun en w' => ∃ vr' vs' S', en = .returned .nilIface ∧ RSt a0 a1 a2 a3 a4 a5 w0 gr gf gs S' w' (b : Int) ((e : Int) + 1) vr' vs' l' m ∧ Grows S S' w ∧ KeptS S' w w' := by
  have HR := Aside0.mk h
  have HS := Aside0.mk hs
  have HA := Aside0.mk hA
  have HK : Aside0 (KeptS S w w) := ⟨KeptS.refl _ _⟩
  clear h hs hA
  have hne := visA_ne gs
  have hw : ∀ z : Int, z = 1 → IntKind.u64.wrap ((e : Int) + z) = (e : Int) + 1 := fun z hz => by
    rw [hz]
    show ((e : Int) + 1) % 18446744073709551616 = _
    omega
  have k2 : w.cell? ⟨gr, 2, none⟩ = some (.int .u64 (e : Int)) := (blk_cell HR.out.obj 2).trans rfl
  go_enter Tryd.func63, Tryd.ntmps63
  go_wp2_with (first
    | (go_at_call 90; (with_reducible refine (compact_NewNodeID.calls _ _ _ _ _ rfl).mono ?_); rintro en w5 ⟨rfl, hb⟩; have HK := Aside0.mk (HK.out.trans (Grows.refl _ _) (KeptS.below hb)); have HS := Aside0.mk (HS.out.below hb); have HR := Aside0.mk (HR.out.step hb); clear hb)
    | (go_at_call 64; (with_reducible refine (HR.out.visit _ _ As cs s HS.out hsl hn0).mono ?_); rintro en w6 ⟨v0, vs6, S6, rfl, hR6, hG6, hK6⟩; have HR6 := Aside0.mk hR6; have HG6 := Aside0.mk (show Grows S S6 w from ⟨hG6.1, fun i hi => (hG6.2 i hi).imp id fun h => Nat.le_trans HK.out.size h⟩); have HS6 := Aside0.mk (HS.out.step hG6 hK6); have HK6 := Aside0.mk (HK.out.trans HG6.out hK6); have k2 : w6.cell? ⟨gr, 2, none⟩ = some (.int .u64 (e : Int)) := (blk_cell HR6.out.obj 2).trans rfl; clear hR6 hG6 hK6)
    | (go_at_call 98; (with_reducible refine (HA.out S6 w6 vs6 HR6.out HS6.out).mono ?_); rintro en w7 ⟨vr7, vs7, S7, rfl, hR7, hG7, hK7⟩; have HR7 := Aside0.mk hR7; have HG7 := Aside0.mk (show Grows S6 S7 w from ⟨hG7.1, fun i hi => (hG7.2 i hi).imp id fun h => Nat.le_trans HK6.out.size h⟩); have HK7 := Aside0.mk (HK6.out.trans HG7.out hK7); clear hR7 hG7 hK7))
  go_ret
  exact ⟨_, _, _, rfl, HR7.out, HG6.out.trans (Nat.le_refl _) HG7.out, HK7.out⟩
end Go.Proofs.YtfhcpniibiobgaaDoor.Qf
