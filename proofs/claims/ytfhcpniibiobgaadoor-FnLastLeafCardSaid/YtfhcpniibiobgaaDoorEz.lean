/- Several texts, joined. -/
import Derived.Test.YtfhcpniibiobgaaDoorEb
import Derived.Deep.RegionHeld3
import Derived.Test.YtfhcpniibiobgaaDoorPx
namespace Go.Proofs.YtfhcpniibiobgaaDoor.Qf
open Go.RowKit Go.Proofs.YtfhcpniibiobgaaDoorW.PrintWords Go.Proofs.YtfhcpniibiobgaaDoorW.PrintLast Go.Proofs.YtfhcpniibiobgaaDoorW.PrintMore
open Hs (CB CL at_L at_B infoB infoL R_of_blk)

/-- A range in memory; what makes it. -/
abbrev rangeObj (gf : Nat) (b e : Int) (A : Option Addr) (n c : Nat) : Obj := .cells #[.pointer (some ⟨gf, 0, none⟩), .int .u64 b, .int .u64 e, .slice A n c] 151 (0, 0)
abbrev facObj (a0 a1 a2 a3 a4 a5 : Int) : Obj := .cells #[.func (.func 53) #[.agg #[.int .i64 a0, .int .i64 a1, .int .i64 a2, .int .u64 a3, .int .u64 a4, .int .u64 a5]] #[]] 100 (0, 0)

set_option maxHeartbeats 1000000 in
set_option maxRecDepth 100000 in
theorem newRange_calls (gf : Nat) (b e : Nat) (A : Option Addr) (n c : Nat) (hbe : b ≤ e) (hs : compact_RangeSize.f (b : Int) (e : Int) = some (n : Int)) (w : World) :
    Calls Tryd.prog 54 #[.pointer (some ⟨gf, 0, none⟩), .int .u64 (b : Nat), .int .u64 (e : Nat), .slice A n c] w fun en w' => ∃ g, en = .returned (.tuple #[.pointer (some ⟨g, 0, none⟩), .nilIface]) ∧ w.heap.size ≤ g ∧ g < w'.heap.size ∧ w'.heap[g]? = some (rangeObj gf (b : Int) (e : Int) A n c) ∧ Below w.heap.size w w' := by
  have RS := Aside0.mk (compact_RangeSize.calls (b : Int) (e : Int) (n : Int) w hs)
  have t1 : decide (e < b) = false := decide_eq_false (by omega)
  have t2 : decide ((e : Int) < (b : Int)) = false := decide_eq_false (by omega)
  have t3 : ((n : Int) != (n : Int)) = false := by simp
  clear hbe hs
  go_enter Tryd.func54, Tryd.ntmps54
  go_wp2_with (first | (go_at_call 88; (with_reducible refine RS.out.mono ?_); rintro en w1 ⟨rfl, hd⟩; have HB := Aside0.mk hd.below; clear hd))
  go_ret2
  exact ⟨_, rfl, below_size HB.out, by simp, heap_alloc_new _ _, below_step HB.out (below_alloc (Below.refl _ _) _)⟩

theorem CB_frame {w w' : World} {A : Option Addr} {l : List Int} (h : CB w A l) (hm : 0 < l.length → ∀ ad, A = some ad → w'.heap[ad.block]? = w.heap[ad.block]?) : CB w' A l :=
  ⟨h.1, h.2.1, fun hp => by
    obtain ⟨ad, e, hc⟩ := h.2.2 hp
    refine ⟨ad, e, fun j p hj => ?_⟩
    obtain ⟨c, hl, hk, hcell⟩ := hc j p hj
    refine ⟨c, hl, hk, fun i u hu => ?_⟩
    rw [← hcell i u hu]
    unfold World.cell?
    rw [show (ad.add (j * (Kd.int .u8).sz + i)).block = ad.block by unfold Addr.add; split <;> rfl, hm hp ad e]⟩
theorem hash_blk {W : World} {base : Nat} {ok : Nat → Prop} {A : Option Addr} {n c : Nat} {l : List Int} (h : Kd.R (Kd.int .u8) 5 W base ok (.slice A n c) l) : ∀ ad, A = some ad → base ≤ ad.block ∧ ad.block < W.heap.size := by
  rintro ad rfl
  exact ⟨Kd.R_base h _ rfl, Kd.R_lt h _ rfl⟩
/-- What is seen so far, in its variable. -/
structure Seen (w0 w : World) (n : Nat) (v : Value) : Prop where
  below : Below w0.heap.size w0 w
  cell : w.heap[w0.heap.size]? = some (.cells #[v] 37 (0, 0))
  row : kV.R 58 w (w0.heap.size + 1) (fun _ => True) v (List.replicate n ())
theorem Seen.step {w0 w w' : World} {n : Nat} {v : Value} (h : Seen w0 w n v) (hb : Below w.heap.size w w') : Seen w0 w' n v :=
  ⟨below_step h.below hb, blk_below h.cell hb, kV_below h.row hb⟩
/-- A hash that neither the variable nor its row holds. -/
structure Apart (w0 w : World) (v : Value) (A : Option Addr) (s : List Int) : Prop where
  bytes : CB w A s
  away : 0 < s.length → ∀ ad, A = some ad → ad.block < w.heap.size ∧ ad.block ≠ w0.heap.size ∧ some ad.block ≠ v.ownBlock
theorem Apart.step {w0 w w' : World} {v : Value} {A : Option Addr} {s : List Int} (h : Apart w0 w v A s) (hb : Below w.heap.size w w') : Apart w0 w' v A s :=
  ⟨Kd.C_below h.bytes hb, fun hp ad e => ⟨Nat.lt_of_lt_of_le (h.away hp ad e).1 hb.size, (h.away hp ad e).2⟩⟩
theorem Apart.new {w0 w w' : World} {n : Nat} {v : Value} {A : Option Addr} {c : Nat} {s : List Int} (h : Seen w0 w n v) (hr : Kd.R (Kd.int .u8) 5 w' w.heap.size (fun _ => True) (.slice A s.length c) s) : Apart w0 w' v A s :=
  ⟨(Kd.R_reads' hr).2.2, fun _ ad e => by
    obtain ⟨h1, h2⟩ := hash_blk hr ad e
    have h3 := lt_of_block h.cell
    refine ⟨h2, by omega, fun he => ?_⟩
    have := (kV_lt h.row ad.block he.symm).2
    omega⟩
theorem Apart.old {w0 w : World} {n : Nat} {v : Value} {A : Option Addr} {s : List Int} (h : Seen w0 w n v) (hb : CB w0 A s) : Apart w0 w v A s :=
  ⟨Kd.C_below hb h.below, fun hp ad e => by
    obtain ⟨ad', e', hc⟩ := at_B hb 0 hp
    rw [e] at e'
    cases e'
    have h1 := World.block_lt_of_cell? w0 _ hc
    rw [Addr.add_zero'] at h1
    have h2 := h.below.size
    refine ⟨by omega, by omega, fun he => ?_⟩
    have := (kV_lt h.row ad.block he.symm).1
    omega⟩
theorem below_sz {a b c : World} (h1 : Below a.heap.size a b) (h2 : Below a.heap.size b c) : Below a.heap.size a c := h1.trans h2
theorem visit_seen {w0 w : World} {n : Nat} {v : Value} (lv ix : Int) (A : Option Addr) (c : Nat) (s : List Int) (h : Seen w0 w n v) (ha : Apart w0 w v A s) (hs : s.length ≤ 140737488351232) (hn : n ≤ 1000) :
    Calls Tryd.prog 56 #[.agg #[.int .u64 lv, .int .u64 ix], .slice A s.length c, .pointer (some ⟨w0.heap.size, 0, none⟩)] w fun e w' => ∃ v0 v', e = .returned v0 ∧ Seen w0 w' (n + 1) v' ∧ Apart w0 w' v' A s ∧ w.heap.size ≤ w'.heap.size :=
  (visit_calls lv ix A c s w0.heap.size n v w ha.bytes hs h.cell (lt_of_block h.cell) h.row hn).mono fun _ w' ⟨v0, v', h1, h2, h3, h4, h5, h6⟩ => by
    have hsz : w.heap.size ≤ w'.heap.size := h6.size
    refine ⟨v0, v', h1, ⟨below_sz h.below h6, h2, h3⟩, ⟨CB_frame ha.bytes fun hp ad e => h4 _ (ha.away hp ad e).1 (ha.away hp ad e).2.1 (ha.away hp ad e).2.2, fun hp ad e => ⟨by have := (ha.away hp ad e).1; omega, (ha.away hp ad e).2.1, ?_⟩⟩, hsz⟩
    rcases h5 with h5 | ⟨b, h5, h7⟩
    · rw [h5]
      exact (ha.away hp ad e).2.2
    · rw [h5]
      intro he
      injection he with he
      have := (ha.away hp ad e).1
      omega
end Go.Proofs.YtfhcpniibiobgaaDoor.Qf
namespace Go.Proofs.YtfhcpniibiobgaaDoor.Qf
open Go.RowKit Go.Proofs.YtfhcpniibiobgaaDoorW.PrintWords Go.Proofs.YtfhcpniibiobgaaDoorW.PrintLast Go.Proofs.YtfhcpniibiobgaaDoorW.PrintMore
open Hs (CB CL at_L at_B infoB infoL R_of_blk)
open Go.Proofs.YtfhcpniibiobgaaDoor.Pure (hcF hcF_len toyHC chB)

theorem u64_nat (x : Int) : ∃ y : Nat, IntKind.u64.wrap x = (y : Int) ∧ y < 18446744073709551616 := by
  refine ⟨(x % 18446744073709551616).toNat, ?_, by omega⟩
  show x % 18446744073709551616 = _
  omega
theorem and_nat (x : Nat) (y : Int) (hx : x < 18446744073709551616) : ∃ z : Nat, Go.bits .and .u64 (x : Int) (IntKind.u64.wrap y) = (z : Int) ∧ z < 18446744073709551616 := by
  obtain ⟨m, hm, hlt⟩ := u64_nat y
  exact ⟨x &&& m, by rw [hm]; exact bits_and_u64_nat x m hx hlt, Nat.lt_of_le_of_lt Nat.and_le_left hx⟩
theorem w64_is (n : Int) : IntKind.i64.wrap n = wrap64 n := by
  unfold wrap64 IntKind.wrap
  simp [IntKind.bits, IntKind.signed]
  omega
theorem tz_some (z : Nat) (hz : z < 18446744073709551616) : bits_TrailingZeros64.f (z : Int) = some ((Lib.ctz 64 z : Nat) : Int) := by
  unfold bits_TrailingZeros64.f
  rw [if_pos (by omega), if_pos (by omega), Int.toNat_natCast]

theorem vis_ne (g : Nat) (W : World) : (binOp .neq 152 (.func (.func 56) #[] #[.pointer (some ⟨g, 0, none⟩)]) .nilFunc).run Tryd.prog W = .ok (.bool true) W := by kernel_rfl
set_option maxHeartbeats 4000000 in
set_option maxRecDepth 100000 in
theorem getRoot_calls (a0 a1 a2 a3 a4 a5 : Int) (gr gf e : Nat) (A : Option Addr) (c m : Nat) (hs : List (List Int)) (r : List Int) (w0 w : World) (vs : Value) (hm : hs.length = m + 1) (hm2 : m ≤ 1000) (he : e < 18446744073709551616) (HG_ : Glob w0) (hrow : ∀ h ∈ hs, h.length ≤ 3000000000)
    (hf : w0.heap[gf]? = some (facObj a0 a1 a2 a3 a4 a5)) (hr : w0.heap[gr]? = some (rangeObj gf 0 (e : Int) A hs.length c)) (hl : CL w0 A hs) (hsn : Seen w0 w 0 vs) (h : chB a0 a2 a5 (hs.take m).reverse (hs.getD m []) = r) :
    Calls Tryd.prog 55 #[.pointer (some ⟨gr, 0, none⟩), .func (.func 56) #[] #[.pointer (some ⟨w0.heap.size, 0, none⟩)]] w fun en w' => ∃ A' c' n v', en = .returned (.tuple #[.slice A' r.length c', .nilIface]) ∧ r.length ≤ c' ∧ r.length ≤ 3000000000 + 3000000009 * m ∧ CB w' A' r ∧ Seen w0 w' n v' := by
  have hgd : ∀ k, (hs.getD k []).length ≤ 3000000000 := fun k => by
    rw [List.getD_eq_getElem?_getD]
    rcases h : hs[k]? with _ | y
    · simp
    · exact hrow y (List.mem_of_getElem? h)
  have HG := Aside0.mk HG_
  have HF := Aside0.mk hf
  have HR := Aside0.mk hr
  have HL := Aside0.mk hl
  have HS := Aside0.mk hsn
  have HH := Aside0.mk h
  have HGD := Aside0.mk hgd
  clear HG_ hf hr hl h hsn hgd hrow
  have g0 : ((0 : Int) != 0) = false := by simp
  have g1 : ((hs.length : Int) == 0) = false := beq_eq_false_iff_ne.2 (by omega)
  have g1n : (hs.length == 0) = false := beq_eq_false_iff_ne.2 (by omega)
  have hw1 : ∀ z : Int, z = 1 → wrap64 ((hs.length : Int) - z) = (m : Int) := fun z hz => by rw [hz, w64_in _ (by omega)]; omega
  have hw2 : ∀ z : Int, z = 2 → wrap64 ((hs.length : Int) - z) = (m : Int) - 1 := fun z hz => by rw [hz, w64_in _ (by omega)]; omega
  have k0 : w.cell? ⟨gr, 0, none⟩ = some (.pointer (some ⟨gf, 0, none⟩)) := (blk_cell (blk_below HR.out HS.out.below) 0).trans rfl
  have k1 : w.cell? ⟨gr, 1, none⟩ = some (.int .u64 0) := (blk_cell (blk_below HR.out HS.out.below) 1).trans rfl
  have k2 : w.cell? ⟨gr, 2, none⟩ = some (.int .u64 (e : Int)) := (blk_cell (blk_below HR.out HS.out.below) 2).trans rfl
  have k3 : w.cell? ⟨gr, 3, none⟩ = some (.slice A hs.length c) := (blk_cell (blk_below HR.out HS.out.below) 3).trans rfl
  obtain ⟨ad, Al, cl, ead, hcell, hll, hCl⟩ := at_L (Kd.C_below HL.out HS.out.below) m (by omega)
  cases ead
  have p0 : (0 : Int) ≤ (m : Int) := by omega
  have p1 : (m : Int) < (hs.length : Int) := by omega
  have HLl := Aside0.mk hll
  obtain ⟨_, Al', cl', e1, hcell', _, hCl0⟩ := at_L HL.out m (by omega)
  have hsame : (Value.slice Al (hs.getD m []).length cl) = .slice Al' (hs.getD m []).length cl' := by
    cases e1
    have := pw_cell_below HS.out.below hcell'
    rw [hcell] at this
    exact Option.some.inj this
  obtain ⟨rfl, rfl⟩ : Al = Al' ∧ cl = cl' := by injection hsame with x1 x2 x3; exact ⟨x1, x3⟩
  have HA0 := Aside0.mk (Apart.old HS.out hCl0)
  clear hCl hll hCl0 hcell' hsame e1
  have HM := Aside0.mk hm
  have HGm := HGD.out m
  clear hm
  generalize hs.getD m [] = s0 at hcell HLl HA0 HH HGm
  go_enter Tryd.func55, Tryd.ntmps55
  go_wp2
  go_region_held3 (fun w' => w'.cell? ⟨gr, 2, none⟩ = some (.int .u64 (e : Int)) ∧ Below w.heap.size w w')
    (((try dsimp only); (try go_split_ands); (repeat' apply And.intro) <;> first | (go_keep; done) | exact below_drew (Below.refl _ _)))
    (fail)
  have hb0 : Below w.heap.size w w.drew := below_drew (Below.refl _ _)
  have HSz := Aside0.mk (Seen.step HS.out hb0)
  have HAz := Aside0.mk (Apart.step HA0.out hb0)
  have hwi : IntKind.i64.wrap ((hs.length : Int) - 2) = (m : Int) - 1 := (w64_is _).trans (hw2 2 rfl)
  go_wp2
  (try simp only [Act.put, List.setIfInBounds_toArray, List.set_cons_zero, List.set_cons_succ])
  go_loopg [7, 8, 9, 10, 11] m (fun kq v7 v8 v9 _v10 _v11 wr => ∃ (j sz : Nat) (s' : List Int) (A' : Option Addr) (c' : Nat) (vs' : Value), j = kq ∧ j ≤ m ∧ v7 = .slice A' s'.length c' ∧ v8 = .int .i64 ((j : Int) - 1) ∧ v9 = .int .u64 (sz : Int) ∧ sz < 18446744073709551616 ∧ Aside0 (s'.length ≤ c') ∧ Aside0 (s'.length ≤ 3000000000 + 3000000009 * (m - j)) ∧ Aside0 (Apart w0 wr vs' A' s') ∧ Aside0 (Seen w0 wr (m - j) vs') ∧ Aside0 (chB a0 a2 a5 (hs.take j).reverse s' = r))
  case atStart => exact ⟨m, e, s0, Al, cl, vs, rfl, Nat.le_refl _, rfl, by rw [hwi], rfl, he, HLl, ⟨by omega⟩, HAz, ⟨by rw [Nat.sub_self]; exact HSz.out⟩, HH⟩
  case round =>
    clear HSz HAz HH hb0 hwi hcell k0 k1 k2 k3 HLl HA0 HS hw1 hw2
    obtain ⟨j, sz, s', A', c', vs', hjk, hkm, rfl, rfl, rfl, hsz, HSC, HSL, HAp, HS, HC⟩ := hrel
    rcases j with _ | k
    · have hc0 := HC.out
      rw [List.take_zero, List.reverse_nil, chB] at hc0
      subst hc0
      rw [show (((0 : Nat) : Int) - 1) = -1 by omega]
      go_wp2
      go_ret2
      exact ⟨_, _, _, _, rfl, HSC.out, HSL.out, HAp.out.bytes, HS.out⟩
    · rw [show (((k + 1 : Nat) : Int) - 1) = (k : Int) by omega]
      rename World => wr
      have hkl : k < hs.length := by have := HM.out; omega
      have q0 : (0 : Int) ≤ (k : Int) := by omega
      have q1 : (k : Int) < (hs.length : Int) := by omega
      have q2 : decide ((0 : Int) ≤ (k : Int)) = true := decide_eq_true q0
      have hw3 : ∀ z : Int, z = 1 → wrap64 ((k : Int) - z) = (k : Int) - 1 := fun z hz => by rw [hz]; exact w64_in _ (by omega)
      have k0 : wr.cell? ⟨gr, 0, none⟩ = some (.pointer (some ⟨gf, 0, none⟩)) := (blk_cell (blk_below HR.out HS.out.below) 0).trans rfl
      have k3 : wr.cell? ⟨gr, 3, none⟩ = some (.slice (some ad) hs.length c) := (blk_cell (blk_below HR.out HS.out.below) 3).trans rfl
      have kf : wr.cell? ⟨gf, 0, none⟩ = some (.func (.func 53) #[.agg #[.int .i64 a0, .int .i64 a1, .int .i64 a2, .int .u64 a3, .int .u64 a4, .int .u64 a5]] #[]) := (blk_cell (blk_below HF.out HS.out.below) 0).trans rfl
      obtain ⟨ad2, Ah, ch, ead2, hx, hlh, hCh⟩ := at_L (Kd.C_below HL.out HS.out.below) k hkl
      cases ead2
      have hc0 := HC.out
      have htk : (hs.take (k + 1)).reverse = hs.getD k [] :: (hs.take k).reverse := by
        rw [List.take_succ_eq_append_getElem hkl, List.reverse_append, List.getD_eq_getElem?_getD, List.getElem?_eq_getElem hkl]
        rfl
      rw [htk, chB] at hc0
      have HGk := HGD.out k
      generalize hs.getD k [] = hsh at hx hlh hCh hc0 HGk
      have HCh := Aside0.mk hCh
      have HLh := Aside0.mk hlh
      have HSL2 := Aside0.mk (hcF_len a0 a2 a5 hsh s')
      have HT := Aside0.mk (toyHC a0 a1 a2 a3 a4 a5 hsh s' (by omega) (by have := HSL.out; omega))
      have HC2 := Aside0.mk hc0
      obtain ⟨z, hz, hz64⟩ := and_nat sz ((sz : Int) - 1) hsz
      have HTZ := Aside0.mk (tz_some z hz64)
      clear hCh hlh hc0 htk HC
      go_wp2
      go_region_held3 (fun w' => w'.cell? ⟨gr, 0, none⟩ = some (.pointer (some ⟨gf, 0, none⟩)) ∧ w'.cell? ⟨gr, 3, none⟩ = some (.slice (some ad) hs.length c) ∧ w'.cell? ⟨gf, 0, none⟩ = some (.func (.func 53) #[.agg #[.int .i64 a0, .int .i64 a1, .int .i64 a2, .int .u64 a3, .int .u64 a4, .int .u64 a5]] #[]) ∧ w'.cell? (ad.add k) = some (.slice Ah hsh.length ch) ∧ Below wr.heap.size wr w')
        (((try dsimp only); (try go_split_ands); (repeat' apply And.intro) <;> first | (go_keep; done) | exact below_drew (Below.refl _ _) | (refine pw_cell_below hb ?_; assumption) | (refine below_then ?_ ?_ hb; assumption; exact Below.size (by assumption))))
        ((go_at_call 53; have hB0 := Aside0.mk (show Below wr.heap.size wr _ by go_split_ands; assumption); refine (impl_toy_HashChildren.calls a0 a1 a2 a3 a4 a5 Ah ch hsh A' c' s' (hcF a0 a2 a5 hsh s') _ (Kd.C_below HCh.out hB0.out) HLh.out (Kd.C_below HAp.out.bytes hB0.out) HSC.out HT.out).mono ?_; rintro e w3 ⟨v3, rfl, hR3, hb⟩))
      obtain ⟨A3, c3, rfl, hl3, hC3⟩ := Kd.R_reads hR3
      have HS1 := Seen.step HS.out hB0.out
      have HA3 := Aside0.mk (Apart.new HS1 hR3)
      have HS3 := Aside0.mk (Seen.step HS1 hb)
      have HL3 := Aside0.mk hl3
      have HG3 := Aside0.mk (Glob.below HG.out HS3.out.below)
      have hsl : (hcF a0 a2 a5 hsh s').length ≤ 140737488351232 := by have := HSL.out; have := HSL2.out; omega
      have HSLn : Aside0 ((hcF a0 a2 a5 hsh s').length ≤ 3000000000 + 3000000009 * (m - k)) := ⟨by have := HSL.out; have := HSL2.out; omega⟩
      generalize hcF a0 a2 a5 hsh s' = s2 at HA3 HL3 hsl HC2 HSLn hC3 hR3 ⊢
      clear hR3 hC3 hl3 HS1 hb HT HSL2 hB0 HS HAp HCh HLh
      go_split_ands
      have hne := vis_ne w0.heap.size
      go_wp2_with (first
        | (go_at_call 89; (with_reducible refine (bits_TrailingZeros64.calls _ _ _ HG3.out HTZ.out).mono ?_); rintro e w4 ⟨rfl, hd⟩; have HS3 := Aside0.mk (Seen.step HS3.out hd.below); have HA3 := Aside0.mk (Apart.step HA3.out hd.below); clear hd)
        | (go_at_call 90; (with_reducible refine (compact_NewNodeID.calls _ _ _ _ _ rfl).mono ?_); rintro e w5 ⟨rfl, hb⟩; have HS3 := Aside0.mk (Seen.step HS3.out hb); have HA3 := Aside0.mk (Apart.step HA3.out hb); clear hb)
        | (go_at_call 56; (with_reducible refine (visit_seen _ _ A3 c3 s2 HS3.out HA3.out hsl (by omega)).mono ?_); rintro e w6 ⟨v0, v', rfl, hS6, hA6, hsz6⟩; have HS6 := Aside0.mk hS6; have HA6 := Aside0.mk hA6; clear hS6 hA6))
      go_roundg k
      case measure => omega
      case rel => exact ⟨k, z, s2, A3, c3, v', rfl, by omega, rfl, by go_num, rfl, hz64, HL3, HSLn, HA6, ⟨by have := HS6.out; rwa [show m - (k + 1) + 1 = m - k by omega] at this⟩, HC2⟩
end Go.Proofs.YtfhcpniibiobgaaDoor.Qf
