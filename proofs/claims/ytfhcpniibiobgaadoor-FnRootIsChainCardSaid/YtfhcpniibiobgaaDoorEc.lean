/- Ranges in memory: made; the root of one, walked. -/
import Derived.Test.YtfhcpniibiobgaaDoorEb
import Derived.Deep.RegionHeld3
namespace Go.Proofs.YtfhcpniibiobgaaDoor.Qf
open Go.RowKit Go.Proofs.YtfhcpniibiobgaaDoorW.PrintWords Go.Proofs.YtfhcpniibiobgaaDoorW.PrintLast Go.Proofs.YtfhcpniibiobgaaDoorW.PrintMore
open Hs (CB CL at_L at_B infoB infoL R_of_blk)

/-- A range in memory; what makes it. -/
abbrev rangeObj (gf : Nat) (b e : Int) (A : Option Addr) (n c : Nat) : Obj := .cells #[.pointer (some ⟨gf, 0, none⟩), .int .u64 b, .int .u64 e, .slice A n c] 151 (0, 0)
abbrev facObj (a0 a1 a2 a3 a4 a5 : Int) : Obj := .cells #[.func (.func 53) #[.agg #[.int .i64 a0, .int .i64 a1, .int .i64 a2, .int .u64 a3, .int .u64 a4, .int .u64 a5]] #[]] 100 (0, 0)

set_option maxHeartbeats 1000000 in
set_option maxRecDepth 100000 in
theorem newRange_calls (gf : Nat) (b e : Nat) (A : Option Addr) (n c : Nat) (hbe : b ≤ e) (hs : compact_RangeSize.f (b : Int) (e : Int) = some (n : Int)) (w : World) :
    Calls Tryd.prog 54 #[.pointer (some ⟨gf, 0, none⟩), .int .u64 (b : Nat), .int .u64 (e : Nat), .slice A n c] w fun en w' => ∃ g, en = .returned (.tuple #[.pointer (some ⟨g, 0, none⟩), .nilIface]) ∧ w.heap.size ≤ g ∧ g < w'.heap.size ∧ w'.heap[g]? = some (rangeObj gf (b : Int) (e : Int) A n c) ∧ Below w.heap.size w w' := by
  have RS := Aside0.mk (compact_RangeSize.calls (b : Int) (e : Int) (n : Int) w hs)
  have t1 : decide (e < b) = false := decide_eq_false (by omega)
  have t2 : decide ((e : Int) < (b : Int)) = false := decide_eq_false (by omega)
  have t3 : ((n : Int) != (n : Int)) = false := by simp
  clear hbe hs
  go_enter Tryd.func54, Tryd.ntmps54
  go_wp2_with (first | (go_at_call 88; (with_reducible refine RS.out.mono ?_); rintro en w1 ⟨rfl, hd⟩; have HB := Aside0.mk hd.below; clear hd))
  go_ret2
  exact ⟨_, rfl, below_size HB.out, by simp, heap_alloc_new _ _, below_step HB.out (below_alloc (Below.refl _ _) _)⟩

theorem CB_frame {w w' : World} {A : Option Addr} {l : List Int} (h : CB w A l) (hm : 0 < l.length → ∀ ad, A = some ad → w'.heap[ad.block]? = w.heap[ad.block]?) : CB w' A l :=
  ⟨h.1, h.2.1, fun hp => by
    obtain ⟨ad, e, hc⟩ := h.2.2 hp
    refine ⟨ad, e, fun j p hj => ?_⟩
    obtain ⟨c, hl, hk, hcell⟩ := hc j p hj
    refine ⟨c, hl, hk, fun i u hu => ?_⟩
    rw [← hcell i u hu]
    unfold World.cell?
    rw [show (ad.add (j * (Kd.int .u8).sz + i)).block = ad.block by unfold Addr.add; split <;> rfl, hm hp ad e]⟩
theorem hash_blk {W : World} {base : Nat} {ok : Nat → Prop} {A : Option Addr} {n c : Nat} {l : List Int} (h : Kd.R (Kd.int .u8) 5 W base ok (.slice A n c) l) : ∀ ad, A = some ad → base ≤ ad.block ∧ ad.block < W.heap.size := by
  rintro ad rfl
  exact ⟨Kd.R_base h _ rfl, Kd.R_lt h _ rfl⟩
/-- What is seen so far, in its variable. -/
structure Seen (w0 w : World) (n : Nat) (v : Value) : Prop where
  below : Below w0.heap.size w0 w
  cell : w.heap[w0.heap.size]? = some (.cells #[v] 37 (0, 0))
  row : kV.R 58 w (w0.heap.size + 1) (fun _ => True) v (List.replicate n ())
theorem Seen.step {w0 w w' : World} {n : Nat} {v : Value} (h : Seen w0 w n v) (hb : Below w.heap.size w w') : Seen w0 w' n v :=
  ⟨below_step h.below hb, blk_below h.cell hb, kV_below h.row hb⟩
/-- A hash that neither the variable nor its row holds. -/
structure Apart (w0 w : World) (v : Value) (A : Option Addr) (s : List Int) : Prop where
  bytes : CB w A s
  away : 0 < s.length → ∀ ad, A = some ad → ad.block < w.heap.size ∧ ad.block ≠ w0.heap.size ∧ some ad.block ≠ v.ownBlock
theorem Apart.step {w0 w w' : World} {v : Value} {A : Option Addr} {s : List Int} (h : Apart w0 w v A s) (hb : Below w.heap.size w w') : Apart w0 w' v A s :=
  ⟨Kd.C_below h.bytes hb, fun hp ad e => ⟨Nat.lt_of_lt_of_le (h.away hp ad e).1 hb.size, (h.away hp ad e).2⟩⟩
theorem Apart.new {w0 w w' : World} {n : Nat} {v : Value} {A : Option Addr} {c : Nat} {s : List Int} (h : Seen w0 w n v) (hr : Kd.R (Kd.int .u8) 5 w' w.heap.size (fun _ => True) (.slice A s.length c) s) : Apart w0 w' v A s :=
  ⟨(Kd.R_reads' hr).2.2, fun _ ad e => by
    obtain ⟨h1, h2⟩ := hash_blk hr ad e
    have h3 := lt_of_block h.cell
    refine ⟨h2, by omega, fun he => ?_⟩
    have := (kV_lt h.row ad.block he.symm).2
    omega⟩
theorem Apart.old {w0 w : World} {n : Nat} {v : Value} {A : Option Addr} {s : List Int} (h : Seen w0 w n v) (hb : CB w0 A s) : Apart w0 w v A s :=
  ⟨Kd.C_below hb h.below, fun hp ad e => by
    obtain ⟨ad', e', hc⟩ := at_B hb 0 hp
    rw [e] at e'
    cases e'
    have h1 := World.block_lt_of_cell? w0 _ hc
    rw [Addr.add_zero'] at h1
    have h2 := h.below.size
    refine ⟨by omega, by omega, fun he => ?_⟩
    have := (kV_lt h.row ad.block he.symm).1
    omega⟩
theorem below_sz {a b c : World} (h1 : Below a.heap.size a b) (h2 : Below a.heap.size b c) : Below a.heap.size a c := h1.trans h2
theorem visit_seen {w0 w : World} {n : Nat} {v : Value} (lv ix : Int) (A : Option Addr) (c : Nat) (s : List Int) (h : Seen w0 w n v) (ha : Apart w0 w v A s) (hs : s.length ≤ 140737488351232) (hn : n ≤ 1000) :
    Calls Tryd.prog 56 #[.agg #[.int .u64 lv, .int .u64 ix], .slice A s.length c, .pointer (some ⟨w0.heap.size, 0, none⟩)] w fun e w' => ∃ v0 v', e = .returned v0 ∧ Seen w0 w' (n + 1) v' ∧ Apart w0 w' v' A s ∧ w.heap.size ≤ w'.heap.size :=
  (visit_calls lv ix A c s w0.heap.size n v w ha.bytes hs h.cell (lt_of_block h.cell) h.row hn).mono fun _ w' ⟨v0, v', h1, h2, h3, h4, h5, h6⟩ => by
    have hsz : w.heap.size ≤ w'.heap.size := h6.size
    refine ⟨v0, v', h1, ⟨below_sz h.below h6, h2, h3⟩, ⟨CB_frame ha.bytes fun hp ad e => h4 _ (ha.away hp ad e).1 (ha.away hp ad e).2.1 (ha.away hp ad e).2.2, fun hp ad e => ⟨by have := (ha.away hp ad e).1; omega, (ha.away hp ad e).2.1, ?_⟩⟩, hsz⟩
    rcases h5 with h5 | ⟨b, h5, h7⟩
    · rw [h5]
      exact (ha.away hp ad e).2.2
    · rw [h5]
      intro he
      injection he with he
      have := (ha.away hp ad e).1
      omega
end Go.Proofs.YtfhcpniibiobgaaDoor.Qf
