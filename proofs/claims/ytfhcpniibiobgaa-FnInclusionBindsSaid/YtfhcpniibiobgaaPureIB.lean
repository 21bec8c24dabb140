/- FnInclusionBinds, all ways joined: plain. -/
import Derived.Test.YtfhcpniibiobgaaRj
import Derived.Test.YtfhcpniibiobgaaPureVG
import Derived.Laws.Strings
namespace Go.Proofs.Ytfhcpniibiobgaa.Pure
open Go.RowKit Go.Proofs.YtfhcpniibiobgaaW.PrintWords Go.Proofs.YtfhcpniibiobgaaW.PrintMore Go.Proofs.YtfhcpniibiobgaaW.PrintLast
open Go.Proofs.Ytfhcpniibiobgaa.M (vlen inn pc)
open Hs (CB CL)
open Qg (eqB viS sameF)

/-- Bytes. -/
def Bt (l : List Int) : Prop := ∀ x ∈ l, 0 ≤ x ∧ x < 256
theorem bt_of {l : List Int} (h : ∀ n ∈ l, (Lit.int .u8 n).wf = true) : Bt l := fun x hx => by
  have h2 : IntKind.u8.min ≤ x ∧ x ≤ IntKind.u8.max := by simpa [Lit.wf] using h x hx
  have e1 : IntKind.u8.min = 0 := rfl
  have e2 : IntKind.u8.max = 255 := rfl
  omega
theorem eqB_self (l : List Int) : eqB l l = true := by unfold eqB; exact BEq.rfl
theorem eqB_eq {l m : List Int} (hl : Bt l) (hm : Bt m) (h : eqB l m = true) : l = m := by
  unfold eqB at h
  have h1 : (strOfNums l).toList = (strOfNums m).toList := eq_of_beq h
  have h2 : (strOfNums l).data.toList = (strOfNums m).data.toList := by rw [← ByteArray.toList_eq, ← ByteArray.toList_eq]; exact h1
  rw [strOfNums_data, strOfNums_data] at h2
  have hlen : l.length = m.length := by simpa using congrArg List.length h2
  apply List.ext_getElem hlen
  intro i h3 h4
  have h5 : (l.map fun n => UInt8.ofNat n.toNat)[i]? = (m.map fun n => UInt8.ofNat n.toNat)[i]? := by rw [h2]
  rw [List.getElem?_map, List.getElem?_map, List.getElem?_eq_getElem h3, List.getElem?_eq_getElem h4] at h5
  simp only [Option.map_some, Option.some.injEq] at h5
  have b1 := hl l[i] (List.getElem_mem h3)
  have b2 := hm m[i] (List.getElem_mem h4)
  have h6 := congrArg UInt8.toNat h5
  rw [UInt8.toNat_ofNat', UInt8.toNat_ofNat'] at h6
  omega
theorem wordF_bt (w n : Int) : Bt (Hs.wordF w n) := fun x hx => by
  unfold Hs.wordF at hx
  obtain ⟨i, _, rfl⟩ := List.mem_map.1 hx
  unfold Hs.wb
  omega
theorem hcF_bt (a0 a2 a5 : Int) {l m : List Int} (hl : Bt l) (hm : Bt m) : Bt (hcF a0 a2 a5 l m) := by
  unfold hcF
  split
  · exact wordF_bt _ _
  · intro x hx
    rw [List.mem_append, List.mem_append, List.mem_append] at hx
    rcases hx with ((h | h) | h) | h
    · obtain rfl := List.mem_singleton.1 h; omega
    · exact wordF_bt _ _ x h
    · exact hl x h
    · exact hm x h
theorem chB_bt (a0 a2 a5 : Int) : ∀ (l : List (List Int)) (s : List Int), (∀ h ∈ l, Bt h) → Bt s → Bt (chB a0 a2 a5 l s)
  | [], s, _, hs => hs
  | h :: t, s, hl, hs => chB_bt a0 a2 a5 t _ (fun x hx => hl x (by simp [hx])) (hcF_bt a0 a2 a5 (hl h (by simp)) hs)
theorem chI_bt (a0 a2 a5 ix : Int) : ∀ (l : List (List Int)) (s : List Int) (i : Nat), (∀ h ∈ l, Bt h) → Bt s → Bt (chI a0 a2 a5 ix l s i)
  | [], s, i, _, hs => hs
  | h :: t, s, i, hl, hs => by
    rw [chI]
    refine chI_bt a0 a2 a5 ix t _ (i + 1) (fun x hx => hl x (by simp [hx])) ?_
    split
    · exact hcF_bt a0 a2 a5 hs (hl h (by simp))
    · exact hcF_bt a0 a2 a5 (hl h (by simp)) hs

theorem rootF_top (a0 a2 a5 : Int) (x n : Nat) (hx : x < n) (hn : n < 18446744073709551616) (leaf : List Int) (path : List (List Int)) (hp : path.length = vlen x n) : Pure.rootF a0 a2 a5 x 64 0 n leaf path = chB a0 a2 a5 (path.drop (inn x n)) (chI a0 a2 a5 (x : Int) (path.take (inn x n)) leaf 0) := by
  have := rootF_ch a0 a2 a5 x (by omega) 64 0 n leaf path (Nat.le_refl _) (Nat.zero_le _) hx hn ⟨64, 0, Nat.le_refl _, by omega, by omega⟩ (by rw [Nat.sub_zero, Nat.sub_zero]; exact hp)
  rw [Nat.sub_zero, Nat.sub_zero] at this
  exact this
/-- The program answers as the reference does. -/
theorem vi_is (a0 a1 a2 a3 a4 a5 : Int) (x n : Nat) (hn : n < 18446744073709551616) (l : List Int) (L : List (List Int)) (r : List Int) (hl : l.length ≤ 5000) (hr : r.length ≤ 2147483647) (hL : L.length ≤ 300) (hrow : ∀ h ∈ L, h.length ≤ 5000) :
    ∃ s, Qg.impl_VerifyInclusion.f a0 a1 a2 a3 a4 a5 (x : Int) (n : Int) l L r = some (viS a0 a1 a2 a5 x n l L r, s) := by
  show ∃ s, Qf.viF a0 a1 a2 a3 a4 a5 (x : Int) (n : Int) l L r = some (viS a0 a1 a2 a5 x n l L r, s)
  unfold viS
  by_cases hx : n ≤ x
  · rw [if_pos hx]
    unfold Qf.viF
    rw [if_pos ⟨by omega, by omega, by omega, fun h hh => by have := hrow h hh; omega⟩, if_pos (by omega)]
    exact ⟨_, rfl⟩
  rw [if_neg hx]
  by_cases hla : (l.length : Int) ≠ a1
  · rw [if_pos hla]
    unfold Qf.viF
    rw [if_pos ⟨by omega, by omega, by omega, fun h hh => by have := hrow h hh; omega⟩, if_neg (by omega), if_pos hla]
    exact ⟨_, rfl⟩
  rw [if_neg hla, viF_at a0 a1 a2 a3 a4 a5 x n hn l L r hl (by omega) hr hL hrow]
  by_cases hc : L.length ≠ vlen x n
  · rw [if_pos hc, if_pos (.inr hc)]
    exact ⟨_, rfl⟩
  rw [if_neg hc, if_neg (by
    intro h
    rcases h with h | h
    · exact hx h
    · exact hc h), rootF_top a0 a2 a5 x n (by omega) hn l L (by omega)]
  have e : Qf.sameB (chB a0 a2 a5 (L.drop (inn x n)) (chI a0 a2 a5 (x : Int) (L.take (inn x n)) l 0)) r = eqB (chB a0 a2 a5 (L.drop (inn x n)) (chI a0 a2 a5 (x : Int) (L.take (inn x n)) l 0)) r := rfl
  rw [e]
  split
  · exact ⟨_, rfl⟩
  · exact ⟨_, rfl⟩
/-- Taken: what is known then. -/
theorem vi_zero {a0 a1 a2 a5 : Int} {x n : Nat} {l : List Int} {L : List (List Int)} {r : List Int} (h : viS a0 a1 a2 a5 x n l L r = 0) : x < n ∧ L.length = vlen x n ∧ eqB (Pure.rootF a0 a2 a5 x 64 0 n l L) r = true := by
  unfold viS at h
  by_cases hx : n ≤ x
  · rw [if_pos hx] at h; omega
  rw [if_neg hx] at h
  by_cases hla : (l.length : Int) ≠ a1
  · rw [if_pos hla] at h; omega
  rw [if_neg hla] at h
  by_cases hc : L.length ≠ vlen x n
  · rw [if_pos hc] at h; omega
  rw [if_neg hc] at h
  by_cases he : eqB (Pure.rootF a0 a2 a5 x 64 0 n l L) r = true
  · exact ⟨by omega, by omega, he⟩
  · rw [if_neg he] at h; omega
/-- With terms, what is taken twice is one. -/
theorem bound {a0 a1 a2 a5 : Int} (h0 : a0 ≠ 1) {x n : Nat} (hn : n < 18446744073709551616) {l o : List Int} {L W : List (List Int)} {r : List Int} (hl : l.length ≤ 5000) (ho : o.length ≤ 5000) (hL : L.length ≤ 300) (rL : ∀ h ∈ L, h.length ≤ 5000) (rW : ∀ h ∈ W, h.length ≤ 5000) (bl : Bt l) (bo : Bt o) (bL : ∀ h ∈ L, Bt h) (bW : ∀ h ∈ W, Bt h) (br : Bt r)
    (h1 : viS a0 a1 a2 a5 x n l L r = 0) (h2 : viS a0 a1 a2 a5 x n o W r = 0) : l = o ∧ L = W := by
  obtain ⟨hx, q1, e1⟩ := vi_zero h1
  obtain ⟨_, q2, e2⟩ := vi_zero h2
  rw [rootF_top a0 a2 a5 x n hx hn l L q1] at e1
  rw [rootF_top a0 a2 a5 x n hx hn o W q2] at e2
  have tk : ∀ {M : List (List Int)} {p : List Int → Prop} (k : Nat), (∀ h ∈ M, p h) → ∀ h ∈ M.take k, p h := fun k hM h hh => hM h (List.mem_of_mem_take hh)
  have dp : ∀ {M : List (List Int)} {p : List Int → Prop} (k : Nat), (∀ h ∈ M, p h) → ∀ h ∈ M.drop k, p h := fun k hM h hh => hM h (List.mem_of_mem_drop hh)
  have g1 := eqB_eq (chB_bt a0 a2 a5 _ _ (dp _ bL) (chI_bt a0 a2 a5 _ _ _ _ (tk _ bL) bl)) br e1
  have g2 := eqB_eq (chB_bt a0 a2 a5 _ _ (dp _ bW) (chI_bt a0 a2 a5 _ _ _ _ (tk _ bW) bo)) br e2
  have t1 : (L.take (inn x n)).length ≤ 300 := by rw [List.length_take]; omega
  have t2 : (L.take (inn x n)).length = (W.take (inn x n)).length := by rw [List.length_take, List.length_take, q1, q2]
  obtain ⟨g3, g4⟩ := chB_inj h0 _ _ _ _ (by rw [List.length_drop, List.length_drop, q1, q2]) (dp _ rL) (dp _ rW) (g1.trans g2.symm)
  obtain ⟨g5, g6⟩ := chI_inj h0 _ _ _ _ 0 t2 (tk _ rL) (tk _ rW) (by omega) (by omega) g3
  refine ⟨g5, ?_⟩
  rw [← List.take_append_drop (inn x n) L, ← List.take_append_drop (inn x n) W, g4, g6]

theorem binds (a0 a1 a2 a3 a4 a5 ix sz : Int) (A3 : Option Addr) (c3 : Nat) (b3 : List Int) (A4 : Option Addr) (c4 : Nat) (b4 : List (List Int)) (A5 : Option Addr) (c5 : Nat) (b5 : List Int) (A6 : Option Addr) (c6 : Nat) (b6 : List (List Int)) (A7 : Option Addr) (c7 : Nat) (b7 : List Int) (w : World) (wi : (Lit.int .u64 ix).wf = true) (ws : (Lit.int .u64 sz).wf = true)
    (h3 : CB w A3 b3) (e3 : b3.length ≤ c3) (h4 : CL w A4 b4) (e4 : b4.length ≤ c4) (h5 : CB w A5 b5) (e5 : b5.length ≤ c5) (h6 : CL w A6 b6) (e6 : b6.length ≤ c6) (h7 : CB w A7 b7) (e7 : b7.length ≤ c7)
    (f3 : ∀ n ∈ b3, (Lit.int .u8 n).wf = true) (f4 : ∀ r ∈ b4, ∀ n ∈ r, (Lit.int .u8 n).wf = true) (f5 : ∀ n ∈ b5, (Lit.int .u8 n).wf = true) (f6 : ∀ r ∈ b6, ∀ n ∈ r, (Lit.int .u8 n).wf = true) (f7 : ∀ n ∈ b7, (Lit.int .u8 n).wf = true) :
    Calls Try.prog 3 #[.agg #[.int .i64 a0, .int .i64 a1, .int .i64 a2, .int .u64 a3, .int .u64 a4, .int .u64 a5], .int .u64 ix, .int .u64 sz, .slice A3 b3.length c3, .slice A4 b4.length c4, .slice A5 b5.length c5, .slice A6 b6.length c6, .slice A7 b7.length c7] w fun e w' => e = .returned (.bool true) ∧ Below w.heap.size w w' := by
  obtain ⟨x, rfl, hx⟩ := nat_of_wf wi
  obtain ⟨n, rfl, hn⟩ := nat_of_wf ws
  obtain ⟨K, hK⟩ : ∃ K, K = 3000000000 := ⟨_, rfl⟩
  obtain ⟨q4, z4, t4⟩ := zz_f b4 K (by omega)
  obtain ⟨q6, z6, t6⟩ := zz_f b6 K (by omega)
  by_cases c31 : 2147483647 < (b3.length : Int)
  · exact Qg.way1 K a0 a1 a2 a3 a4 a5 x n A3 c3 b3 A4 c4 b4 A5 c5 b5 A6 c6 b6 A7 c7 b7 w h3 e3 h4 e4 h5 e5 h6 e6 h7 e7 (decide_eq_true c31)
  have d31 := decide_eq_false c31
  cases q4
  · exact Qg.way2 K a0 a1 a2 a3 a4 a5 x n A3 c3 b3 A4 c4 b4 A5 c5 b5 A6 c6 b6 A7 c7 b7 w h3 e3 h4 e4 h5 e5 h6 e6 h7 e7 d31 z4
  by_cases c51 : 2147483647 < (b5.length : Int)
  · exact Qg.way3 K a0 a1 a2 a3 a4 a5 x n A3 c3 b3 A4 c4 b4 A5 c5 b5 A6 c6 b6 A7 c7 b7 w h3 e3 h4 e4 h5 e5 h6 e6 h7 e7 d31 z4 (decide_eq_true c51)
  have d51 := decide_eq_false c51
  cases q6
  · exact Qg.way4 K a0 a1 a2 a3 a4 a5 x n A3 c3 b3 A4 c4 b4 A5 c5 b5 A6 c6 b6 A7 c7 b7 w h3 e3 h4 e4 h5 e5 h6 e6 h7 e7 d31 z4 d51 z6
  by_cases c71 : 2147483647 < (b7.length : Int)
  · exact Qg.way5 K a0 a1 a2 a3 a4 a5 x n A3 c3 b3 A4 c4 b4 A5 c5 b5 A6 c6 b6 A7 c7 b7 w h3 e3 h4 e4 h5 e5 h6 e6 h7 e7 d31 z4 d51 z6 (decide_eq_true c71)
  have d71 := decide_eq_false c71
  by_cases hterm : a0 = 1
  · exact Qg.way6 K a0 a1 a2 a3 a4 a5 x n A3 c3 b3 A4 c4 b4 A5 c5 b5 A6 c6 b6 A7 c7 b7 w h3 e3 h4 e4 h5 e5 h6 e6 h7 e7 d31 z4 d51 z6 d71 (by subst hterm; rfl)
  have tt : Qg.spec_Terms.f a0 a1 a2 a3 a4 a5 = some true := by
    unfold Qg.spec_Terms.f
    rw [bne_iff_ne.2 hterm]
  obtain ⟨q4, p4, y4⟩ := small_f b4 (t4 rfl) K (by omega)
  obtain ⟨q6, p6, y6⟩ := small_f b6 (t6 rfl) K (by omega)
  cases q4
  · exact Qg.way7 K a0 a1 a2 a3 a4 a5 x n A3 c3 b3 A4 c4 b4 A5 c5 b5 A6 c6 b6 A7 c7 b7 w h3 e3 h4 e4 h5 e5 h6 e6 h7 e7 d31 z4 d51 z6 d71 tt p4
  cases q6
  · exact Qg.way8 K a0 a1 a2 a3 a4 a5 x n A3 c3 b3 A4 c4 b4 A5 c5 b5 A6 c6 b6 A7 c7 b7 w h3 e3 h4 e4 h5 e5 h6 e6 h7 e7 d31 z4 d51 z6 d71 tt p4 p6
  obtain ⟨s4, r4⟩ := y4 rfl
  obtain ⟨s6, r6⟩ := y6 rfl
  by_cases c32 : 5000 < (b3.length : Int)
  · exact Qg.way9 K a0 a1 a2 a3 a4 a5 x n A3 c3 b3 A4 c4 b4 A5 c5 b5 A6 c6 b6 A7 c7 b7 w h3 e3 h4 e4 h5 e5 h6 e6 h7 e7 d31 z4 d51 z6 d71 tt p4 p6 (decide_eq_true c32)
  have d32 := decide_eq_false c32
  by_cases c52 : 5000 < (b5.length : Int)
  · exact Qg.waya K a0 a1 a2 a3 a4 a5 x n A3 c3 b3 A4 c4 b4 A5 c5 b5 A6 c6 b6 A7 c7 b7 w h3 e3 h4 e4 h5 e5 h6 e6 h7 e7 d31 z4 d51 z6 d71 tt p4 p6 d32 (decide_eq_true c52)
  have d52 := decide_eq_false c52
  obtain ⟨u1, v1⟩ := vi_is a0 a1 a2 a3 a4 a5 x n hn b3 b4 b7 (by omega) (by omega) s4 r4
  obtain ⟨u2, v2⟩ := vi_is a0 a1 a2 a3 a4 a5 x n hn b5 b6 b7 (by omega) (by omega) s6 r6
  have look := fun (W : World) (hb : Below w.heap.size w W) => Qg.look_calls a0 a1 a2 a3 a4 a5 x n A3 c3 b3 (by omega) e3 A4 c4 b4 A7 c7 b7 W hn e4 e7 r4 (Kd.C_below h3 hb) (Kd.C_below h4 hb) (Kd.C_below h7 hb)
  by_cases k1 : viS a0 a1 a2 a5 x n b3 b4 b7 = 0
  case neg => exact Qg.wayb K a0 a1 a2 a3 a4 a5 x n A3 c3 b3 A4 c4 b4 A5 c5 b5 A6 c6 b6 A7 c7 b7 w h3 e3 h4 e4 h5 e5 h6 e6 h7 e7 d31 z4 d51 z6 d71 tt p4 p6 d32 d52 _ _ u1 u2 v1 v2 look (bne_iff_ne.2 k1)
  have k1' := bne_eq_false_iff_eq.2 k1
  by_cases k2 : viS a0 a1 a2 a5 x n b5 b6 b7 = 0
  case neg => exact Qg.wayc K a0 a1 a2 a3 a4 a5 x n A3 c3 b3 A4 c4 b4 A5 c5 b5 A6 c6 b6 A7 c7 b7 w h3 e3 h4 e4 h5 e5 h6 e6 h7 e7 d31 z4 d51 z6 d71 tt p4 p6 d32 d52 _ _ u1 u2 v1 v2 look k1' (bne_iff_ne.2 k2)
  have k2' := bne_eq_false_iff_eq.2 k2
  obtain ⟨m1, m2⟩ := bound hterm hn (by omega) (by omega) s4 r4 r6 (bt_of f3) (bt_of f5) (fun h hh => bt_of (f4 h hh)) (fun h hh => bt_of (f6 h hh)) (bt_of f7) k1 k2
  exact Qg.wayd K a0 a1 a2 a3 a4 a5 x n A3 c3 b3 A4 c4 b4 A5 c5 b5 A6 c6 b6 A7 c7 b7 w h3 e3 h4 e4 h5 e5 h6 e6 h7 e7 d31 z4 d51 z6 d71 tt p4 p6 d32 d52 _ _ u1 u2 v1 v2 look k1' k2' (by rw [m1]; exact congrArg some (eqB_self b5)) (by omega) (by rw [m2]; exact Qg.sameF_yes rfl fun j _ => eqB_self _)
end Go.Proofs.Ytfhcpniibiobgaa.Pure
