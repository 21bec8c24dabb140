/- FnTreeConsistency, all ways joined: plain. -/
import Derived.Test.YtfhcpniibiobgaaDoorJe
import Derived.Test.YtfhcpniibiobgaaDoorJn
namespace Go.Proofs.YtfhcpniibiobgaaDoor.Pure
open Go.RowKit Go.Proofs.YtfhcpniibiobgaaDoorW.PrintWords Go.Proofs.YtfhcpniibiobgaaDoorW.PrintMore Go.Proofs.YtfhcpniibiobgaaDoorW.PrintLast
open Hs (CB CL eqB sameF_yes)
open Qf (rehG)
open Go.Proofs.YtfhcpniibiobgaaDoor.M (IsN sibs sibs_length partsN)

theorem nat_of_wf {x : Int} (h : (Lit.int .u64 x).wf = true) : ∃ n : Nat, x = (n : Int) ∧ n < 18446744073709551616 := by
  have h2 : IntKind.u64.min ≤ x ∧ x ≤ IntKind.u64.max := by simpa [Lit.wf] using h
  have e1 : IntKind.u64.min = 0 := rfl
  have e2 : IntKind.u64.max = 18446744073709551615 := rfl
  exact ⟨x.toNat, by omega, by omega⟩
theorem texts_go (L : List (List Int)) (hL : L.length ≤ 5864062014804) (hrow : ∀ x ∈ L, x.length < 140737488355328) : ∀ (m j k : Nat), j + m = L.length → m < k → Qf.impl_texts.l0 k (L.take j) L (L.length : Int) (j : Int) = some L
  | 0, j, k + 1, h, _ => by
    unfold Qf.impl_texts.l0
    rw [if_neg (by omega), List.take_of_length_le (by omega)]
  | m + 1, j, k + 1, h, hk => by
    have hj : j < L.length := by omega
    have hx : Qf.rd_L1 L (j : Int) = L[j] := by
      show L.getD (j : Int).toNat [] = L[j]
      rw [Int.toNat_natCast, List.getD_eq_getElem?_getD, List.getElem?_eq_getElem hj]
      rfl
    unfold Qf.impl_texts.l0
    rw [if_pos (by omega), if_pos (by omega), if_pos (by omega), Option.bind_some, hx, List.nil_append, if_pos (by have := hrow L[j] (List.getElem_mem hj); simpa using this), if_pos (by rw [List.length_take]; omega), ← List.take_succ_eq_append_getElem hj, w64p _ (by omega), show ((j : Int) + 1) = ((j + 1 : Nat) : Int) by omega]
    exact texts_go L hL hrow m (j + 1) k (by omega) (by omega)
theorem texts_ok (L : List (List Int)) (k : Nat) (hk : L.length < k) (hL : L.length ≤ 5864062014804) (hrow : ∀ x ∈ L, x.length < 140737488355328) : Qf.impl_texts.f k L = some L := texts_go L hL hrow L.length 0 k (by omega) hk
theorem gd_of {W : List (List Int)} {p : List Int → Prop} (hn : p []) (hW : ∀ x ∈ W, p x) (j : Nat) : p (W.getD j []) := by
  rw [List.getD_eq_getElem?_getD]
  rcases h : W[j]? with _ | y
  · exact hn
  · exact hW y (List.mem_of_getElem? h)
section
variable {a0 a1 a2 a3 a4 a5 : Int}
/-- The reference's hashes of parts. -/
theorem proof_go (M : List (List Int)) (s2 : Nat) (hs : s2 ≤ M.length) (h300 : M.length ≤ 300) (hM : ∀ i, (M.getD i []).length ≤ 5010) (P : List (Nat × Nat)) (hP : ∀ p ∈ P, p.1 < p.2 ∧ p.2 ≤ s2) (hPl : P.length ≤ 1000) : ∀ (m j k : Nat) (out : List (List Int)), j + m = P.length → 4000064 + m < k → out.length + m ≤ 1000 →
    Qf.spec_Proof.l0 k (M.take s2) out (P.map mkP) (P.length : Int) (j : Int) a0 a1 a2 a3 a4 a5 = some (out ++ (P.drop j).map (mtP a0 a2 a5 fun i => M.getD i []))
  | 0, j, k, out, h, hk, _ => by
    obtain ⟨k, rfl⟩ : ∃ k', k = k' + 1 := ⟨k - 1, by omega⟩
    rw [Qf.spec_Proof.l0, if_neg (by omega), List.drop_eq_nil_of_le (by omega), List.map_nil, List.append_nil]
  | m + 1, j, k, out, h, hk, ho => by
    obtain ⟨k, rfl⟩ : ∃ k', k = k' + 1 := ⟨k - 1, by omega⟩
    have hj : j < P.length := by omega
    have hx : Qf.rd_T55 (P.map mkP) (j : Int) = mkP P[j] := by
      show (P.map mkP).getD (j : Int).toNat _ = _
      rw [Int.toNat_natCast, List.getD_eq_getElem?_getD, List.getElem?_map, List.getElem?_eq_getElem hj]
      rfl
    obtain ⟨p1, p2⟩ := hP P[j] (List.getElem_mem hj)
    have hLl : (((M.take s2).take P[j].2).drop P[j].1).length = P[j].2 - P[j].1 := by
      rw [List.length_drop, List.length_take, List.length_take]
      omega
    have hr := spec_root (a0 := a0) (a1 := a1) (a2 := a2) (a3 := a3) (a4 := a4) (a5 := a5) M 64 k (((M.take s2).take P[j].2).drop P[j].1) P[j].1 (by omega) (by omega) (by omega) (by omega) hM (fun i hi => by
      rw [hLl] at hi
      rw [List.getD_eq_getElem?_getD, List.getD_eq_getElem?_getD, List.getElem?_drop, List.getElem?_take_of_lt (by omega), List.getElem?_take_of_lt (by omega)])
    rw [hLl, show P[j].1 + (P[j].2 - P[j].1) = P[j].2 by omega] at hr
    have hro : Qf.spec_RootOf.f k a0 a1 a2 a3 a4 a5 (M.take s2) (P[j].1 : Int) (P[j].2 : Int) = some (mtP a0 a2 a5 (fun i => M.getD i []) P[j]) := by
      unfold Qf.spec_RootOf.f
      rw [if_pos (by omega), if_pos (by omega), if_pos (by rw [List.length_take]; omega), Int.toNat_natCast, Int.toNat_natCast, hr]
      rfl
    rw [Qf.spec_Proof.l0, if_pos (by omega), if_pos (by omega), if_pos (by rw [List.length_map]; omega), hx]
    show (Qf.spec_RootOf.f k a0 a1 a2 a3 a4 a5 (M.take s2) (P[j].1 : Int) (P[j].2 : Int)).bind _ = _
    rw [hro, Option.bind_some, if_pos (by omega), Qf.w64_in _ (by omega), show ((j : Int) + 1) = ((j + 1 : Nat) : Int) by omega, proof_go M s2 hs h300 hM P hP hPl m (j + 1) k _ (by omega) (by omega) (by rw [List.length_append, List.length_singleton]; omega), List.append_assoc, List.drop_eq_getElem_cons hj]
    rfl
/-- The reference's proof, its parts told. -/
theorem proof_of (M : List (List Int)) (s1 s2 : Nat) (hs : s2 ≤ M.length) (h300 : M.length ≤ 300) (hM : ∀ i, (M.getD i []).length ≤ 5010) (P : List (Nat × Nat)) (hP : ∀ p ∈ P, p.1 < p.2 ∧ p.2 ≤ s2) (hPl : P.length ≤ 1000) (h : Ev (fun k => Qf.spec_ProofParts.f k (s1 : Int) (s2 : Int)) (P.map mkP)) :
    ∃ kr, Qf.spec_Proof.f kr a0 a1 a2 a3 a4 a5 (M.take s2) (s1 : Int) = some (P.map (mtP a0 a2 a5 fun i => M.getD i [])) := by
  obtain ⟨k1, h1⟩ := h
  obtain ⟨kr, hk1, hk2⟩ : ∃ kr, k1 ≤ kr ∧ 4001065 ≤ kr := ⟨k1 + 4001065, by omega, by omega⟩
  refine ⟨kr, ?_⟩
  have hl : (M.take s2).length = s2 := by rw [List.length_take]; omega
  unfold Qf.spec_Proof.f
  have h1' : Qf.spec_ProofParts.f kr (s1 : Int) (s2 : Int) = some (P.map mkP) := h1 kr hk1
  rw [hl, wu _ (by omega), h1', Option.bind_some, List.length_map]
  have := proof_go (a0 := a0) (a1 := a1) (a2 := a2) (a3 := a3) (a4 := a4) (a5 := a5) M s2 hs h300 hM P hP hPl P.length 0 kr [] (by omega) (by omega) (by simpa using hPl)
  rw [List.drop_zero, List.nil_append] at this
  exact this
/-- The tree's proof and the reference's are the same. -/
theorem cons_data (M : List (List Int)) (h300 : M.length ≤ 300) (hM : ∀ i, (M.getD i []).length ≤ 5010) (s1 s2 : Nat) (h12 : s1 ≤ s2) (hs : s2 ≤ M.length) :
    ∃ (k : Nat) (ids : List Qf.S108) (B E : Nat) (lv ix : Int) (r : List (List Int)), Qf.proof_Consistency.f k (s1 : Int) (s2 : Int) = some (ids, (B : Int), (E : Int), lv, ix, none) ∧ ids.length ≤ 1000 ∧ E ≤ ids.length ∧
      (∀ i, i < ids.length → ∃ lv ix : Nat, ids.getD i Qf.z108 = ⟨(lv : Int), (ix : Int)⟩ ∧ lv < (rsN a0 a2 a5 (fun j => M.getD j []) M.length).length ∧ ix < ((rsN a0 a2 a5 (fun j => M.getD j []) M.length).getD lv []).length) ∧
      rehG a0 a1 a2 a3 a4 a5 (ids.map (Qf.nodeF (rsN a0 a2 a5 (fun j => M.getD j []) M.length))) B E (ids.map (Qf.nodeF (rsN a0 a2 a5 (fun j => M.getD j []) M.length))).length 0 [] = some r ∧
      r.length ≤ 1000 ∧ (∀ x ∈ r, x.length ≤ 2000000) ∧ (s1 = 0 → r = []) ∧ (s1 ≠ 0 → ∃ kr, Qf.spec_Proof.f kr a0 a1 a2 a3 a4 a5 (M.take s2) (s1 : Int) = some r) := by
  by_cases hz : s1 = 0 ∨ s1 = s2
  · have h1 : Ev (fun k => Qf.proof_Consistency.f k (s1 : Int) (s2 : Int)) (([] : List Qf.S108), 0, 0, 0, 0, none) := by
      refine Ev.step (f := fun _ => some (([] : List Qf.S108), 0, 0, 0, 0, none)) (fun k => ?_) (Ev.now _)
      unfold Qf.proof_Consistency.f
      rw [if_neg (by omega)]
      by_cases he : (s1 : Int) = (s2 : Int)
      · rw [if_pos he]
        simp [Qf.proof_Consistency.j0]
      · rw [if_neg he, show ((s1 : Int) == 0) = true by simp; omega]
        simp [Qf.proof_Consistency.j0]
    obtain ⟨k, hk⟩ := h1.rounds
    refine ⟨k, [], 0, 0, 0, 0, [], hk, by simp, by simp, fun i hi => by simp at hi, rfl, by simp, fun x hx => by simp at hx, fun _ => rfl, fun h0 => ?_⟩
    have he : s1 = s2 := by omega
    subst he
    refine proof_of M s1 s1 hs h300 hM [] (fun p hp => by simp at hp) (by simp) ?_
    refine Ev.step (f := fun _ => some (([] : List (Nat × Nat)).map mkP)) (fun k => ?_) (Ev.now _)
    unfold Qf.spec_ProofParts.f
    rw [Qf.spec_proofIn.f, if_pos rfl, if_pos rfl]
    rfl
  · obtain ⟨m, hm1, hm2⟩ := Go.Proofs.YtfhcpniibiobgaaDoor.M.ctz_spec s1 (by omega) (by omega)
    have hx : s1 = (2 * m + 1) * 2 ^ Lib.ctz 64 s1 := by rw [Nat.mul_comm]; exact hm1
    have hl63 : Lib.ctz 64 s1 ≤ 63 := by omega
    obtain ⟨c, Rt, Lf, hp, h1⟩ := impl_side hx rfl hl63 (show s1 < s2 by omega) (by omega)
    generalize Lib.ctz 64 s1 = l at *
    obtain ⟨k, hk⟩ := h1.rounds
    have hin := whole_in hx (show s1 < s2 by omega) hp
    have hlen : (whole (firstOf m l) c l (2 * m) Rt Lf).1.length ≤ 400 := by
      have h3 := hp.rlen
      have h4 := hp.llen
      have h5 := hp.lvl
      have h6 : (firstOf m l).length ≤ 1 := by unfold firstOf; split <;> simp
      unfold whole
      rw [List.length_append, tail_length]
      omega
    obtain ⟨hph, hpi⟩ := parts_log (a0 := a0) (a2 := a2) (a5 := a5) (g := fun i => M.getD i []) (l := l) (i := 2 * m) (s := s2) (by omega) (by rw [← hx]; exact h12) hp.even hp.top hp.right hp.left
    have hyx : 2 * m * 2 ^ l + 2 ^ l = s1 := by rw [hx, Nat.add_mul, Nat.one_mul]
    have hp0 := Nat.two_pow_pos l
    have hndP : ∀ x : Nat × Nat, (x.2 + 1) * 2 ^ x.1 ≤ s2 → (ndP a0 a2 a5 (fun i => M.getD i []) x).length ≤ 1600000 := fun x hx => by
      have h1 := (up_of hx).1
      have h2 := nd_len (a0 := a0) (a2 := a2) (a5 := a5) (hl := fun i => M.getD i []) hM x.1 x.2
      show (nd a0 a2 a5 (fun i => M.getD i []) x.1 x.2).length ≤ 1600000
      omega
    have hmap : ((whole (firstOf m l) c l (2 * m) Rt Lf).1.map mk108).map (Qf.nodeF (rsN a0 a2 a5 (fun j => M.getD j []) M.length)) = (whole (firstOf m l) c l (2 * m) Rt Lf).1.map (ndP a0 a2 a5 fun i => M.getD i []) := by
      rw [List.map_map]
      refine List.map_congr_left fun x hx => ?_
      show ((rsN a0 a2 a5 (fun j => M.getD j []) M.length).getD ((x.1 : Int)).toNat []).getD ((x.2 : Int)).toNat [] = _
      rw [Int.toNat_natCast, Int.toNat_natCast]
      exact rsN_at _ _ _ (up_of (Nat.le_trans (hin x hx) hs)).2
    have hre := rehash_whole (a0 := a0) (a1 := a1) (a2 := a2) (a3 := a3) (a4 := a4) (a5 := a5) (g := fun i => M.getD i []) (firstOf m l) c l (2 * m) Rt Lf hp.rlen (fun x hx => hndP x (hin x (by unfold whole tail; simp [hx])))
    -- the parts
    obtain ⟨P, hPd⟩ : ∃ P, P = (if m = 0 then [] else [(2 * m * 2 ^ l, s1)]) ++ partsN 64 (2 * m * 2 ^ l) ((2 * m + 1) * 2 ^ l) 0 s2 := ⟨_, rfl⟩
    have hPh : (firstOf m l).map (ndP a0 a2 a5 fun i => M.getD i []) ++ hashesOf a0 a2 a5 (fun i => M.getD i []) c l (2 * m) Rt Lf = P.map (mtP a0 a2 a5 fun i => M.getD i []) := by
      rw [hPd, List.map_append, hph]
      congr 1
      unfold firstOf
      by_cases h0 : m = 0
      · rw [if_pos h0, if_pos h0]
        rfl
      · rw [if_neg h0, if_neg h0]
        have h2 := nd_mt (a0 := a0) (a2 := a2) (a5 := a5) (g := fun i => M.getD i []) l (2 * m) 64 (by omega)
        rw [← hx] at h2
        show [nd a0 a2 a5 (fun i => M.getD i []) l (2 * m)] = [mt a0 a2 a5 (fun i => M.getD i []) 64 (2 * m * 2 ^ l) s1]
        rw [h2]
    have hPi : ∀ p ∈ P, p.1 < p.2 ∧ p.2 ≤ s2 := fun p hp => by
      rw [hPd] at hp
      rcases List.mem_append.1 hp with h | h
      · split at h
        · simp at h
        · obtain rfl := List.mem_singleton.1 h
          exact ⟨by show 2 * m * 2 ^ l < s1; omega, by show s1 ≤ s2; omega⟩
      · exact hpi p h
    have hPl : P.length ≤ 1000 := by
      have h1 := partsN_length 64 (2 * m * 2 ^ l) ((2 * m + 1) * 2 ^ l) 0 s2
      rw [hPd, List.length_append]
      split <;> simp <;> omega
    have hev := proofIn_ev l (2 * m) (by omega) 64 64 0 s2 (Nat.le_refl _) (Nat.le_refl _) (Nat.dvd_zero _) (by omega) (Nat.zero_le _) (by rw [← hx]; exact h12) (by omega) (by rw [← hx]; omega) true
    have hpp : Ev (fun k => Qf.spec_ProofParts.f k (s1 : Int) (s2 : Int)) (P.map mkP) := by
      refine Ev.congr (fun k => ?_) (Ev.bind hev (f := fun _ t => some t) (Ev.congr (fun k => ?_) (Ev.now _)))
      · unfold Qf.spec_ProofParts.f
        rw [← hx]
        rfl
      · refine congrArg some ?_
        rw [hPd, List.map_append]
        congr 1
        by_cases h0 : m = 0
        · rw [if_pos ⟨rfl, by rw [h0]; simp⟩, if_pos h0]
          rfl
        · rw [if_neg (fun h => by have h2 := h.2; have : 0 < 2 * m * 2 ^ l := Nat.mul_pos (by omega) hp0; omega), if_neg h0, ← hx]
          rfl
    rw [hPh] at hre
    refine ⟨k, (whole (firstOf m l) c l (2 * m) Rt Lf).1.map mk108, wB (firstOf m l) c Rt, wE (firstOf m l) c Rt, ((l + c : Nat) : Int), ((2 * m / 2 ^ c + 1 : Nat) : Int), _, ?_, by rw [List.length_map]; omega, ?_, fun i hi => ?_, by rw [hmap]; exact hre, by rw [List.length_map]; exact hPl, fun x hx => ?_, fun h0 => by omega, fun _ => proof_of M s1 s2 hs h300 hM P hPi hPl hpp⟩
    · rw [hk]
      unfold whole wB wE
      by_cases h0 : Rt.length = 0
      · simp only [if_pos h0]
        rfl
      · simp only [if_neg h0]
    · rw [List.length_map]
      unfold wE whole
      rw [List.length_append, tail_length]
      split <;> omega
    · rw [List.length_map] at hi
      have h2 := up_of (Nat.le_trans (hin _ (List.getElem_mem hi)) hs)
      refine ⟨((whole (firstOf m l) c l (2 * m) Rt Lf).1[i]).1, ((whole (firstOf m l) c l (2 * m) Rt Lf).1[i]).2, ?_, ?_, ?_⟩
      · rw [List.getD_eq_getElem?_getD, List.getElem?_eq_getElem (by rw [List.length_map]; exact hi), Option.getD_some, List.getElem_map]
        rfl
      · rw [rsN_len]
        exact lt_bl.2 h2.1
      · rw [rsN_row]
        exact h2.2
    · obtain ⟨p, hp, rfl⟩ := List.mem_map.1 hx
      obtain ⟨q1, q2⟩ := hPi p hp
      have h2 := mt_len (a0 := a0) (a2 := a2) (a5 := a5) (g := fun i => M.getD i []) hM 64 p.1 p.2 (by omega) q1
      show (mt a0 a2 a5 (fun i => M.getD i []) 64 p.1 p.2).length ≤ 2000000
      omega
end
theorem eqB_self (l : List Int) : eqB l l = true := by unfold eqB; exact BEq.rfl
theorem treeConsistency (a0 a1 a2 a3 a4 a5 : Int) (A : Option Addr) (c : Nat) (L : List (List Int)) (x2 x3 : Int) (w : World) (w2 : (Lit.int .u64 x2).wf = true) (w3 : (Lit.int .u64 x3).wf = true) (C1 : CL w A L) (e1 : L.length ≤ c) (HG : Glob w) :
    Calls Tryd.prog 9 #[.agg #[.int .i64 a0, .int .i64 a1, .int .i64 a2, .int .u64 a3, .int .u64 a4, .int .u64 a5], .slice A L.length c, .int .u64 x2, .int .u64 x3] w fun e w' => e = .returned (.bool true) ∧ Below w.heap.size w w' := by
  obtain ⟨s1, rfl, hs1⟩ := nat_of_wf w2
  obtain ⟨s2, rfl, hs2⟩ := nat_of_wf w3
  obtain ⟨K, hK⟩ : ∃ K, K = 3000000000 := ⟨_, rfl⟩
  obtain ⟨z1, hz1, l1⟩ := zz_f L K (by omega)
  cases z1 with
  | false => exact Qf.tcl1 K a0 a1 a2 a3 a4 a5 A c L s1 s2 w C1 e1 hz1
  | true =>
  obtain ⟨q1, p1, y1⟩ := small_f L (l1 rfl) K (by omega)
  have hml := l1 rfl
  cases q1 with
  | false => exact Qf.tcl2 K a0 a1 a2 a3 a4 a5 A c L s1 s2 w C1 e1 hz1 p1
  | true =>
  obtain ⟨h300, rL⟩ := y1 rfl
  by_cases v1 : s2 < s1
  · exact Qf.tcl3 K a0 a1 a2 a3 a4 a5 A c L s1 s2 w C1 e1 hz1 p1 hml (decide_eq_true v1) (decide_eq_true (by omega)) (fun W _ => Qf.tc_no a0 a1 a2 a3 a4 a5 A L.length c s1 s2 W hml (.inr v1))
  by_cases v2 : L.length < s2
  · exact Qf.tcl4 K a0 a1 a2 a3 a4 a5 A c L s1 s2 w C1 e1 hz1 p1 hml (decide_eq_false v1) (decide_eq_false (by omega)) (decide_eq_true v2) (decide_eq_true (by omega)) (fun W _ => Qf.tc_no a0 a1 a2 a3 a4 a5 A L.length c s1 s2 W hml (.inl v2))
  have hM : ∀ i, (L.getD i []).length ≤ 5010 := fun i => Nat.le_trans (gd_of (p := fun x => x.length ≤ 5000) (by simp) rL i) (by omega)
  obtain ⟨k, ids, B, E, lv, ix, r, hc, hl, hE, hok, hr, hrl, hrr, h0, hsp⟩ := cons_data (a0 := a0) (a1 := a1) (a2 := a2) (a3 := a3) (a4 := a4) (a5 := a5) L h300 hM s1 s2 (by omega) (by omega)
  have tc := fun (W : World) (hb : Below w.heap.size w W) => Qf.tc_yes a0 a1 a2 a3 a4 a5 A c L s1 s2 W (L.length + 1) (rsN a0 a2 a5 fun j => L.getD j []) r (Kd.C_below C1 hb) e1 (Glob.below HG hb) (by omega) (by omega) (texts_ok L (L.length + 1) (by omega) (by omega) (fun x hx => by have := rL x hx; omega)) h300 (fun j hj => tstep_of a0 a1 a2 a3 a4 a5 hM j (by omega)) rfl (r.length + 1) (texts_ok r (r.length + 1) (by omega) (by omega) (fun x hx => by have := hrr x hx; omega)) (fun w0 gt S w1 vh rv hT HG1 => Qf.consProof_calls a0 a1 a2 a3 a4 a5 w0 gt S w1 _ vh rv _ (s1 : Int) (s2 : Int) k ids B E lv ix r hT HG1 hc hl hE hok hr)
  by_cases v3 : s1 = 0
  · have hr0 := h0 v3
    exact Qf.tcl5 K a0 a1 a2 a3 a4 a5 A c L s1 s2 w C1 e1 hz1 p1 hml (decide_eq_false v1) (decide_eq_false (by omega)) (decide_eq_false v2) (decide_eq_false (by omega)) (beq_iff_eq.2 v3) (beq_iff_eq.2 (by omega)) r tc (by rw [hr0]; rfl) (by rw [hr0]; rfl)
  · obtain ⟨kr, hkr⟩ := hsp v3
    exact Qf.tcl6 K a0 a1 a2 a3 a4 a5 A c L s1 s2 w C1 e1 hz1 p1 hml (decide_eq_false v1) (decide_eq_false (by omega)) (decide_eq_false v2) (decide_eq_false (by omega)) (by omega) (beq_eq_false_iff_ne.2 v3) (beq_eq_false_iff_ne.2 (by omega)) r tc kr hkr (by unfold Qf.spec_Same.f; rw [if_pos (by omega)]; exact congrArg some (sameF_yes rfl fun j _ => eqB_self _))
end Go.Proofs.YtfhcpniibiobgaaDoor.Pure
