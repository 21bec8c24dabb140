/- Ranges in memory: made. -/
import Derived.Test.YtfhcpniibiobgaaDoorEb
import Derived.Deep.RegionHeld3
namespace Go.Proofs.YtfhcpniibiobgaaDoor.Qf
open Go.RowKit Go.Proofs.YtfhcpniibiobgaaDoorW.PrintWords Go.Proofs.YtfhcpniibiobgaaDoorW.PrintLast Go.Proofs.YtfhcpniibiobgaaDoorW.PrintMore
open Hs (CB CL at_L at_B infoB infoL R_of_blk)

/-- A range in memory; what makes it. -/
abbrev rangeObj (gf : Nat) (b e : Int) (A : Option Addr) (n c : Nat) : Obj := .cells #[.pointer (some ⟨gf, 0, none⟩), .int .u64 b, .int .u64 e, .slice A n c] 151 (0, 0)
abbrev facObj (a0 a1 a2 a3 a4 a5 : Int) : Obj := .cells #[.func (.func 53) #[.agg #[.int .i64 a0, .int .i64 a1, .int .i64 a2, .int .u64 a3, .int .u64 a4, .int .u64 a5]] #[]] 100 (0, 0)

set_option maxHeartbeats 1000000 in
set_option maxRecDepth 100000 in
theorem newRange_calls (gf : Nat) (b e : Nat) (A : Option Addr) (n c : Nat) (hbe : b ≤ e) (hs : compact_RangeSize.f (b : Int) (e : Int) = some (n : Int)) (w : World) :
    Calls Tryd.prog 54 #[.pointer (some ⟨gf, 0, none⟩), .int .u64 (b : Nat), .int .u64 (e : Nat), .slice A n c] w fun en w' => ∃ g, en = .returned (.tuple #[.pointer (some ⟨g, 0, none⟩), .nilIface]) ∧ w.heap.size ≤ g ∧ g < w'.heap.size ∧ w'.heap[g]? = some (rangeObj gf (b : Int) (e : Int) A n c) ∧ Below w.heap.size w w' := by
  have RS := Aside0.mk (compact_RangeSize.calls (b : Int) (e : Int) (n : Int) w hs)
  have t1 : decide (e < b) = false := decide_eq_false (by omega)
  have t2 : decide ((e : Int) < (b : Int)) = false := decide_eq_false (by omega)
  have t3 : ((n : Int) != (n : Int)) = false := by simp
  clear hbe hs
  go_enter Tryd.func54, Tryd.ntmps54
  go_wp2_with (first | (go_at_call 88; (with_reducible refine RS.out.mono ?_); rintro en w1 ⟨rfl, hd⟩; have HB := Aside0.mk hd.below; clear hd))
  go_ret2
  exact ⟨_, rfl, below_size HB.out, by simp, heap_alloc_new _ _, below_step HB.out (below_alloc (Below.refl _ _) _)⟩

theorem CB_frame {w w' : World} {A : Option Addr} {l : List Int} (h : CB w A l) (hm : 0 < l.length → ∀ ad, A = some ad → w'.heap[ad.block]? = w.heap[ad.block]?) : CB w' A l :=
  ⟨h.1, h.2.1, fun hp => by
    obtain ⟨ad, e, hc⟩ := h.2.2 hp
    refine ⟨ad, e, fun j p hj => ?_⟩
    obtain ⟨c, hl, hk, hcell⟩ := hc j p hj
    refine ⟨c, hl, hk, fun i u hu => ?_⟩
    rw [← hcell i u hu]
    unfold World.cell?
    rw [show (ad.add (j * (Kd.int .u8).sz + i)).block = ad.block by unfold Addr.add; split <;> rfl, hm hp ad e]⟩
theorem hash_blk {W : World} {base : Nat} {ok : Nat → Prop} {A : Option Addr} {n c : Nat} {l : List Int} (h : Kd.R (Kd.int .u8) 5 W base ok (.slice A n c) l) : ∀ ad, A = some ad → base ≤ ad.block ∧ ad.block < W.heap.size := by
  rintro ad rfl
  exact ⟨Kd.R_base h _ rfl, Kd.R_lt h _ rfl⟩
end Go.Proofs.YtfhcpniibiobgaaDoor.Qf
