/- FnIncludedStays, all ways joined: plain. -/
import Derived.Test.YtfhcpniibiobgaaDoorJe
import Derived.Test.YtfhcpniibiobgaaDoorNk
import Derived.Test.YtfhcpniibiobgaaDoorJv
namespace Go.Proofs.YtfhcpniibiobgaaDoor.Pure
open Go.RowKit Go.Proofs.YtfhcpniibiobgaaDoorW.PrintWords Go.Proofs.YtfhcpniibiobgaaDoorW.PrintMore Go.Proofs.YtfhcpniibiobgaaDoorW.PrintLast
open Hs (CB CL)
open Qf (sameB)
open Go.Proofs.YtfhcpniibiobgaaDoor.M (leftN rightN nodesN vlen inn pc)

theorem right_ok (e : Nat) : ∀ (f R : Nat), f ≤ 64 → R < 2 ^ f → R ≤ e → 2 ^ f ∣ e - R → (∀ x ∈ rightN f e R, 2 ^ x.1 ≤ e ∧ x.2 < e / 2 ^ x.1) ∧ ∀ j, e - R ≤ j → j < e → ∃ x ∈ rightN f e R, x.2 * 2 ^ x.1 ≤ j ∧ j < (x.2 + 1) * 2 ^ x.1 := fun f => by
  induction f using Nat.strongRecOn with
  | _ f ih =>
    intro R hf hR he hd
    rcases f with _ | f
    · have h0 : R = 0 := by simpa using hR
      subst h0
      exact ⟨fun x hx => by simp [rightN] at hx, fun j h1 h2 => by omega⟩
    · by_cases h0 : R = 0
      · subst h0
        exact ⟨fun x hx => by simp [rightN] at hx, fun j h1 h2 => by omega⟩
      · obtain ⟨_, hcf, hle, _, hrest, ⟨u0, hu⟩, hd2⟩ := M.rstep f e R hf h0 hR he hd
        obtain ⟨u, hu2⟩ : ∃ u, u = 2 * u0 := ⟨_, rfl⟩
        rw [← hu2] at hu
        clear hu2
        rw [rightN, if_neg h0]
        generalize Lib.bitLen R - 1 = c at hcf hle hrest hu hd2
        have hp := Nat.two_pow_pos c
        rw [M.rightN_fuel c f e (R - 2 ^ c) hcf (by omega) hrest]
        obtain ⟨i1, i2⟩ := ih c (by omega) (R - 2 ^ c) (by omega) hrest (by omega) hd2
        have hdiv : (e - R) / 2 ^ c = u := by rw [hu, Nat.mul_div_cancel_left _ hp]
        rw [hdiv]
        have hmul : u * 2 ^ c = e - R := by rw [hu, Nat.mul_comm]
        have hmul2 : (u + 1) * 2 ^ c = e - R + 2 ^ c := by rw [Nat.succ_mul, hmul]
        refine ⟨fun x hx => ?_, fun j h1 h2 => ?_⟩
        · rcases List.mem_cons.1 hx with rfl | hx
          · refine ⟨by show 2 ^ c ≤ e; omega, ?_⟩
            have : u + 1 ≤ e / 2 ^ c := (Nat.le_div_iff_mul_le hp).2 (by omega)
            exact this
          · exact i1 x hx
        · rcases Nat.lt_or_ge j (e - R + 2 ^ c) with hlt | hge
          · exact ⟨_, List.mem_cons_self, by show u * 2 ^ c ≤ j; omega, by show j < (u + 1) * 2 ^ c; omega⟩
          · obtain ⟨x, hx, g1, g2⟩ := i2 j (by omega) h2
            exact ⟨x, List.mem_cons_of_mem _ hx, g1, g2⟩
theorem rootF_top (a0 a2 a5 : Int) (x n : Nat) (hx : x < n) (hn : n < 18446744073709551616) (leaf : List Int) (path : List (List Int)) (hp : path.length = vlen x n) : Pure.rootF a0 a2 a5 x 64 0 n leaf path = chB a0 a2 a5 (path.drop (inn x n)) (chI a0 a2 a5 (x : Int) (path.take (inn x n)) leaf 0) := by
  have := rootF_ch a0 a2 a5 x (by omega) 64 0 n leaf path (Nat.le_refl _) (Nat.zero_le _) hx hn ⟨64, 0, Nat.le_refl _, by omega, by omega⟩ (by rw [Nat.sub_zero, Nat.sub_zero]; exact hp)
  rw [Nat.sub_zero, Nat.sub_zero] at this
  exact this
/-- What an audit path that is taken tells. -/
theorem vi_tell (a0 a1 a2 a3 a4 a5 : Int) (x n : Nat) (hn : n < 18446744073709551616) (l : List Int) (L : List (List Int)) (r : List Int) (hl : l.length ≤ 5000) (hr : r.length ≤ 2147483647) (hL : L.length ≤ 300) (hrow : ∀ h ∈ L, h.length ≤ 5000) :
    ∃ v s, Qf.viF a0 a1 a2 a3 a4 a5 (x : Int) (n : Int) l L r = some (v, s) ∧ (v = 0 → sameB (rootF a0 a2 a5 x 64 0 n l L) r = true) := by
  by_cases hla : (l.length : Int) = a1
  · rw [viF_at a0 a1 a2 a3 a4 a5 x n hn l L r hl hla hr hL hrow]
    by_cases hc : n ≤ x ∨ L.length ≠ inn x n + pc 64 (x / 2 ^ inn x n)
    · rw [if_pos hc]
      exact ⟨2, [], rfl, fun h => by omega⟩
    · rw [if_neg hc]
      have hx : x < n := by
        rcases Nat.lt_or_ge x n with hh | hh
        · exact hh
        · exact absurd (.inl hh) hc
      have hv : L.length = vlen x n := by
        by_cases hh : L.length = vlen x n
        · exact hh
        · exact absurd (.inr hh) hc
      rw [rootF_top a0 a2 a5 x n hx hn l L hv]
      by_cases hs : sameB (chB a0 a2 a5 (L.drop (inn x n)) (chI a0 a2 a5 (x : Int) (L.take (inn x n)) l 0)) r = true
      · rw [if_pos hs]
        exact ⟨0, [], rfl, fun _ => hs⟩
      · rw [if_neg hs]
        exact ⟨1, _, rfl, fun h => by omega⟩
  · unfold Qf.viF
    rw [if_pos ⟨by omega, by omega, by omega, fun h hh => by have := hrow h hh; omega⟩]
    by_cases hx : (n : Int) ≤ (x : Int)
    · rw [if_pos hx]
      exact ⟨2, [], rfl, fun h => by omega⟩
    · rw [if_neg hx, if_pos hla]
      exact ⟨2, [], rfl, fun h => by omega⟩
/-- What a consistency proof that is taken tells. -/
theorem vc_tell {a0 a2 a5 : Int} {s1 s2 : Nat} {L : List (List Int)} {r1 r2 : List Int} (h : (Qf.vcF a0 a2 a5 s1 s2 L r1 r2).1 = 0) (h0 : s1 ≠ 0) : (s1 = s2 ∧ sameB r1 r2 = true) ∨ (sameB (rootsF a0 a2 a5 s1 64 0 s2 true L r1).1 r1 = true ∧ sameB (rootsF a0 a2 a5 s1 64 0 s2 true L r1).2 r2 = true) := by
  unfold Qf.vcF at h
  by_cases c1 : s2 < s1
  · rw [if_pos c1] at h
    simp at h
  rw [if_neg c1] at h
  by_cases c2 : s1 = s2
  · rw [if_pos c2] at h
    by_cases c3 : 0 < L.length
    · rw [if_pos c3] at h
      simp at h
    rw [if_neg c3] at h
    by_cases c4 : sameB r1 r2 = true
    · exact .inl ⟨c2, c4⟩
    · rw [if_neg c4] at h
      simp at h
  rw [if_neg c2, if_neg h0] at h
  by_cases c3 : L.length + Lib.ctz 64 s1 ≠ Qf.vcSt s1 + vlen (s1 - 1) s2
  · rw [if_pos c3] at h
    simp at h
  rw [if_neg c3] at h
  generalize rootsF a0 a2 a5 s1 64 0 s2 true L r1 = q at h ⊢
  by_cases c4 : sameB q.1 r1 = true
  · rw [if_pos c4] at h
    by_cases c5 : sameB q.2 r2 = true
    · exact .inr ⟨c4, c5⟩
    · rw [if_neg c5] at h
      simp at h
  · rw [if_neg c4] at h
    simp at h
theorem gd_of {W : List (List Int)} {p : List Int → Prop} (hn : p []) (hW : ∀ x ∈ W, p x) (j : Nat) : p (W.getD j []) := by
  rw [List.getD_eq_getElem?_getD]
  rcases h : W[j]? with _ | y
  · exact hn
  · exact hW y (List.mem_of_getElem? h)
theorem nil_bt : Bt [] := fun x hx => by simp at hx
theorem rootF_bt (a0 a2 a5 : Int) (x : Nat) : ∀ (T b e : Nat) (leaf : List Int) (path : List (List Int)), Bt leaf → (∀ h ∈ path, Bt h) → Bt (rootF a0 a2 a5 x T b e leaf path)
  | 0, _, _, _, _, hl, _ => hl
  | T + 1, b, e, leaf, path, hl, hp => by
    have ht : ∀ h ∈ path.take (path.length - 1), Bt h := fun h hh => hp h (List.mem_of_mem_take hh)
    rw [rootF]
    split
    · exact hl
    · split
      · exact hcF_bt a0 a2 a5 (rootF_bt a0 a2 a5 x T _ _ leaf _ hl ht) (gd_of nil_bt hp _)
      · exact hcF_bt a0 a2 a5 (gd_of nil_bt hp _) (rootF_bt a0 a2 a5 x T _ _ leaf _ hl ht)
theorem rootsF_bt (a0 a2 a5 : Int) (m : Nat) : ∀ (T b e : Nat) (wh : Bool) (pf : List (List Int)) (r : List Int), Bt r → (∀ h ∈ pf, Bt h) → Bt (rootsF a0 a2 a5 m T b e wh pf r).1 ∧ Bt (rootsF a0 a2 a5 m T b e wh pf r).2
  | 0, _, _, wh, pf, r, hr, hp => by
    rw [rootsF]
    split
    · exact ⟨hr, hr⟩
    · exact ⟨gd_of nil_bt hp _, gd_of nil_bt hp _⟩
  | T + 1, b, e, wh, pf, r, hr, hp => by
    have ht : ∀ h ∈ pf.take (pf.length - 1), Bt h := fun h hh => hp h (List.mem_of_mem_take hh)
    rw [rootsF]
    split
    · split
      · exact ⟨hr, hr⟩
      · exact ⟨gd_of nil_bt hp _, gd_of nil_bt hp _⟩
    · split
      · have i := rootsF_bt a0 a2 a5 m T b (b + 2 ^ Nat.log2 (e - b - 1)) wh _ r hr ht
        exact ⟨i.1, hcF_bt a0 a2 a5 i.2 (gd_of nil_bt hp _)⟩
      · have i := rootsF_bt a0 a2 a5 m T (b + 2 ^ Nat.log2 (e - b - 1)) e false _ r hr ht
        exact ⟨hcF_bt a0 a2 a5 (gd_of nil_bt hp _) i.1, hcF_bt a0 a2 a5 (gd_of nil_bt hp _) i.2⟩
/-- The program's chain of hashes of any length. -/
theorem toyBg (a0 a1 a2 a3 a4 a5 : Int) (B : Nat) (hB : B ≤ 10000000000000) : ∀ (l : List (List Int)) (s : List Int), (∀ h ∈ l, h.length ≤ B) → s.length + (B + 9) * l.length ≤ 10000000000000 → Qf.chainB a0 a1 a2 a3 a4 a5 l s = some (chB a0 a2 a5 l s)
  | [], s, _, _ => rfl
  | h :: t, s, hl, hs => by
    have h1 := hl h (by simp)
    rw [List.length_cons, Nat.mul_succ] at hs
    have e2 := hcF_len a0 a2 a5 h s
    rw [Qf.chainB, chB, toyHC a0 a1 a2 a3 a4 a5 h s (by omega) (by omega), Option.bind_some]
    exact toyBg a0 a1 a2 a3 a4 a5 B hB t _ (fun x hx => hl x (by simp [hx])) (by omega)
/-- The nodes' hashes of a tree of n leaves. -/
def wnd (a0 a2 a5 : Int) (hl : Nat → List Int) (n : Nat) : List (List Int) := (rightN 64 n n).map fun x => nd a0 a2 a5 hl x.1 x.2
theorem wnd_mem {a0 a2 a5 : Int} {hl : Nat → List Int} (h : ∀ i, (hl i).length ≤ 5010) (n : Nat) (hn : n ≤ 300) : ∀ y ∈ wnd a0 a2 a5 hl n, y.length ≤ 1600000 := fun y hy => by
  obtain ⟨x, hx, rfl⟩ := List.mem_map.1 hy
  have h1 := ((right_ok n 64 n (Nat.le_refl _) (by omega) (Nat.le_refl _) (by simp)).1 x hx).1
  have h2 := nd_len (a0 := a0) (a2 := a2) (a5 := a5) h x.1 x.2
  omega
theorem wnd_len {a0 a2 a5 : Int} {hl : Nat → List Int} (n : Nat) : (wnd a0 a2 a5 hl n).length ≤ 64 := by
  unfold wnd
  rw [List.length_map]
  exact M.rightN_len 64 n n
theorem wnd_pos {a0 a2 a5 : Int} {hl : Nat → List Int} (n : Nat) (hn : n ≠ 0) : 0 < (wnd a0 a2 a5 hl n).length := by
  unfold wnd
  rw [List.length_map, rightN, if_neg hn]
  simp
theorem wnd_root {a0 a2 a5 : Int} {hl : Nat → List Int} (n : Nat) (h64 : n < 2 ^ 64) (hn : 0 < n) : chB a0 a2 a5 ((wnd a0 a2 a5 hl n).take ((wnd a0 a2 a5 hl n).length - 1)).reverse ((wnd a0 a2 a5 hl n).getD ((wnd a0 a2 a5 hl n).length - 1) []) = mt a0 a2 a5 hl 64 0 n := by
  rw [crown_chB _ (wnd_pos n (by omega))]
  have h := (right_mt (a0 := a0) (a2 := a2) (a5 := a5) (g := hl) n 64 n 64 (Nat.le_refl _) h64 hn (Nat.le_refl _) (by simp) (Nat.le_of_lt h64)).2
  rw [Nat.sub_self] at h
  exact h
/-- The program's root of rows that came in. -/
theorem tree_ok (a0 a1 a2 a3 a4 a5 : Int) (A : Option Addr) (c : Nat) (M : List (List Int)) (w : World) (hC : CL w A M) (hc : M.length ≤ c) (HG : Glob w) (hM : ∀ x ∈ M, x.length ≤ 5000) (h300 : M.length ≤ 300) (hz : 0 < M.length) :
    Calls Tryd.prog 36 #[.agg #[.int .i64 a0, .int .i64 a1, .int .i64 a2, .int .u64 a3, .int .u64 a4, .int .u64 a5], .slice A M.length c, .int .u64 (M.length : Int)] w fun en w' => ∃ Ar cr, en = .returned (.tuple #[.slice Ar (mt a0 a2 a5 (fun j => M.getD j []) 64 0 M.length).length cr, .bool true]) ∧ (mt a0 a2 a5 (fun j => M.getD j []) 64 0 M.length).length ≤ cr ∧ CB w' Ar (mt a0 a2 a5 (fun j => M.getD j []) 64 0 M.length) ∧ Below w.heap.size w w' := by
  have hll : ∀ j, ((fun j => M.getD j []) j).length ≤ 5010 := fun j => Nat.le_trans (gd_of (p := fun x => x.length ≤ 5000) (by simp) hM j) (by omega)
  generalize hhl : (fun j => M.getD j []) = hl at hll ⊢
  have hhl2 : ∀ j, hl j = M.getD j [] := fun j => by rw [← hhl]
  have hn64 : M.length < 2 ^ 64 := by omega
  refine Qf.treeRoot_calls a0 a1 a2 a3 a4 a5 A c M w (M.length + 1) (rsN a0 a2 a5 hl) _ hC hc HG (Qf.texts_ok M (by omega) (fun x hx => by have := hM x hx; omega)) h300 (fun j hj => by rw [← hhl2]; exact tstep_of a0 a1 a2 a3 a4 a5 hll j (by omega)) rfl fun w0 gt S w1 vh rv hT HG1 => ?_
  obtain ⟨L, R, X, d, hf, hm⟩ := decompose_of 0 M.length (by omega) (by omega)
  obtain ⟨k, hk⟩ := rangeNodes_of hf hm (by omega) [] (by simp)
  have hL := hm.zero rfl
  have hlo := hm.lo
  have hhi := hm.hi
  obtain rfl : R = M.length := by omega
  subst hL
  have hnn : nodesN X M.length 0 M.length = rightN 64 M.length M.length := by
    unfold nodesN
    rw [leftN, if_pos rfl, List.nil_append]
  rw [hnn, List.nil_append] at hk
  have hok := right_ok M.length 64 M.length (Nat.le_refl _) (by omega) (Nat.le_refl _) (by simp)
  have hwl : ((rightN 64 M.length M.length).map mk108).length = (wnd a0 a2 a5 hl M.length).length := by unfold wnd; rw [List.length_map, List.length_map]
  have hp := wnd_pos (a0 := a0) (a2 := a2) (a5 := a5) (hl := hl) M.length (by omega)
  have hl64 := wnd_len (a0 := a0) (a2 := a2) (a5 := a5) (hl := hl) M.length
  have hmap : ((rightN 64 M.length M.length).map mk108).map (Qf.nodeF (rsN a0 a2 a5 hl M.length)) = wnd a0 a2 a5 hl M.length := by
    unfold wnd
    rw [List.map_map]
    refine List.map_congr_left fun x hx => ?_
    show ((rsN a0 a2 a5 hl M.length).getD ((x.1 : Int)).toNat []).getD ((x.2 : Int)).toNat [] = _
    rw [Int.toNat_natCast, Int.toNat_natCast]
    exact rsN_at _ _ _ (hok.1 x hx).2
  have hmm := wnd_mem (a0 := a0) (a2 := a2) (a5 := a5) hll M.length h300
  have hgd : ((wnd a0 a2 a5 hl M.length).getD ((wnd a0 a2 a5 hl M.length).length - 1) []).length ≤ 1600000 := gd_of (p := fun x => x.length ≤ 1600000) (by simp) hmm _
  have hroot := wnd_root (a0 := a0) (a2 := a2) (a5 := a5) (hl := hl) M.length hn64 hz
  have hch : Qf.chainB a0 a1 a2 a3 a4 a5 ((wnd a0 a2 a5 hl M.length).take ((wnd a0 a2 a5 hl M.length).length - 1)).reverse ((wnd a0 a2 a5 hl M.length).getD ((wnd a0 a2 a5 hl M.length).length - 1) []) = some (mt a0 a2 a5 hl 64 0 M.length) := by
    rw [toyBg a0 a1 a2 a3 a4 a5 1600000 (by omega) _ _ (fun y hy => hmm y (List.mem_of_mem_take (List.mem_reverse.1 hy))) (by rw [List.length_reverse, List.length_take]; omega), hroot]
  refine Qf.hashAt_calls a0 a1 a2 a3 a4 a5 w0 gt S w1 _ vh rv _ M.length k ((wnd a0 a2 a5 hl M.length).length - 1) ((rightN 64 M.length M.length).map mk108) _ hT (by omega) HG1 hk (by rw [hwl]; omega) (by omega) (fun i hi => ?_) (by rw [hmap]; exact hch)
  rw [List.length_map] at hi
  refine ⟨((rightN 64 M.length M.length)[i]).1, ((rightN 64 M.length M.length)[i]).2, ?_, ?_, ?_⟩
  · rw [List.getD_eq_getElem?_getD, List.getElem?_eq_getElem (by rw [List.length_map]; exact hi), Option.getD_some, List.getElem_map]
    rfl
  · rw [rsN_len]
    exact lt_bl.2 (hok.1 _ (List.getElem_mem hi)).1
  · rw [rsN_row]
    exact (hok.1 _ (List.getElem_mem hi)).2
/-- With terms: an entry proved in an older log is the entry of the newer. -/
theorem leaf_stays {a0 a2 a5 : Int} (h0 : a0 ≠ 1) {M L P : List (List Int)} {leaf r1 : List Int} {ix s1 : Nat} (hM : ∀ x ∈ M, x.length ≤ 5000) (h300 : M.length ≤ 300) (hs : s1 ≤ M.length) (hix : ix < s1) (hl : leaf.length ≤ 5000) (hr1 : r1.length ≤ 100000) (rL : ∀ h ∈ L, h.length ≤ 5000) (rP : ∀ h ∈ P, h.length ≤ 5000) (bM : ∀ h ∈ M, Bt h) (bl : Bt leaf) (b1 : Bt r1) (bL : ∀ h ∈ L, Bt h) (bP : ∀ h ∈ P, Bt h)
    (h1 : sameB (rootF a0 a2 a5 ix 64 0 s1 leaf L) r1 = true) (h2 : (Qf.vcF a0 a2 a5 s1 M.length P r1 (mt a0 a2 a5 (fun j => M.getD j []) 64 0 M.length)).1 = 0) : leaf = M.getD ix [] := by
  have hll : ∀ j, ((fun j => M.getD j []) j).length ≤ 5010 := fun j => Nat.le_trans (gd_of (p := fun x => x.length ≤ 5000) (by simp) hM j) (by omega)
  have hbb : ∀ j, Bt ((fun j => M.getD j []) j) := fun j => gd_of (p := Bt) nil_bt bM j
  have e1 := sameB_eq (rootF_bt a0 a2 a5 ix 64 0 s1 leaf L bl bL) b1 h1
  have er : r1 = mt a0 a2 a5 (fun j => M.getD j []) 64 0 s1 := by
    rcases vc_tell h2 (by omega) with ⟨g1, g2⟩ | ⟨g1, g2⟩
    · rw [g1]
      exact sameB_eq b1 (mt_bt hbb 64 0 M.length) g2
    · have hb := rootsF_bt a0 a2 a5 s1 64 0 M.length true P r1 b1 bP
      have q1 := sameB_eq hb.1 b1 g1
      have q2 := sameB_eq hb.2 (mt_bt hbb 64 0 M.length) g2
      rw [← roots_binds h0 hll s1 64 0 M.length true P r1 (Nat.le_refl _) (by omega) hs (by omega) h300 hr1 rP q2]
      exact q1.symm
  exact root_binds h0 hll ix 64 0 s1 leaf L (Nat.le_refl _) (Nat.zero_le _) hix (by omega) (by omega) hl rL (e1.trans er)
theorem includedStays (a0 a1 a2 a3 a4 a5 : Int) (A1 : Option Addr) (c1 : Nat) (b1 : List (List Int)) (x2 x3 : Int) (A4 : Option Addr) (c4 : Nat) (b4 : List Int) (A5 : Option Addr) (c5 : Nat) (b5 : List (List Int)) (A6 : Option Addr) (c6 : Nat) (b6 : List Int) (A7 : Option Addr) (c7 : Nat) (b7 : List (List Int)) (w : World) (w2 : (Lit.int .u64 x2).wf = true) (w3 : (Lit.int .u64 x3).wf = true)
    (C1 : CL w A1 b1) (e1 : b1.length ≤ c1) (C4 : CB w A4 b4) (e4 : b4.length ≤ c4) (C5 : CL w A5 b5) (e5 : b5.length ≤ c5) (C6 : CB w A6 b6) (e6 : b6.length ≤ c6) (C7 : CL w A7 b7) (e7 : b7.length ≤ c7)
    (f1 : ∀ r ∈ b1, ∀ n ∈ r, (Lit.int .u8 n).wf = true) (f4 : ∀ n ∈ b4, (Lit.int .u8 n).wf = true) (f5 : ∀ r ∈ b5, ∀ n ∈ r, (Lit.int .u8 n).wf = true) (f6 : ∀ n ∈ b6, (Lit.int .u8 n).wf = true) (f7 : ∀ r ∈ b7, ∀ n ∈ r, (Lit.int .u8 n).wf = true) (HG : Glob w) :
    Calls Tryd.prog 10 #[.agg #[.int .i64 a0, .int .i64 a1, .int .i64 a2, .int .u64 a3, .int .u64 a4, .int .u64 a5], .slice A1 b1.length c1, .int .u64 x2, .int .u64 x3, .slice A4 b4.length c4, .slice A5 b5.length c5, .slice A6 b6.length c6, .slice A7 b7.length c7] w fun e w' => e = .returned (.bool true) ∧ Below w.heap.size w w' := by
  obtain ⟨ix, rfl, hx64⟩ := nat_of_wf w2
  obtain ⟨s1, rfl, hs64⟩ := nat_of_wf w3
  obtain ⟨K, hK⟩ : ∃ K, K = 3000000000 := ⟨_, rfl⟩
  obtain ⟨z1, hz1, l1⟩ := zz_f b1 K (by omega)
  cases z1 with
  | false => exact Qf.is1 K a0 a1 a2 a3 a4 a5 ix s1 A1 c1 b1 A4 c4 b4 A5 c5 b5 A6 c6 b6 A7 c7 b7 w C1 e1 C4 e4 C5 e5 C6 e6 C7 e7 hz1
  | true =>
  by_cases t4 : 2147483647 < (b4.length : Int)
  · exact Qf.is2 K a0 a1 a2 a3 a4 a5 ix s1 A1 c1 b1 A4 c4 b4 A5 c5 b5 A6 c6 b6 A7 c7 b7 w C1 e1 C4 e4 C5 e5 C6 e6 C7 e7 hz1 (decide_eq_true t4)
  have dt4 := decide_eq_false t4
  obtain ⟨z5, hz5, l5⟩ := zz_f b5 K (by omega)
  cases z5 with
  | false => exact Qf.is3 K a0 a1 a2 a3 a4 a5 ix s1 A1 c1 b1 A4 c4 b4 A5 c5 b5 A6 c6 b6 A7 c7 b7 w C1 e1 C4 e4 C5 e5 C6 e6 C7 e7 hz1 dt4 hz5
  | true =>
  by_cases t6 : 2147483647 < (b6.length : Int)
  · exact Qf.is4 K a0 a1 a2 a3 a4 a5 ix s1 A1 c1 b1 A4 c4 b4 A5 c5 b5 A6 c6 b6 A7 c7 b7 w C1 e1 C4 e4 C5 e5 C6 e6 C7 e7 hz1 dt4 hz5 (decide_eq_true t6)
  have dt6 := decide_eq_false t6
  obtain ⟨z7, hz7, l7⟩ := zz_f b7 K (by omega)
  cases z7 with
  | false => exact Qf.is5 K a0 a1 a2 a3 a4 a5 ix s1 A1 c1 b1 A4 c4 b4 A5 c5 b5 A6 c6 b6 A7 c7 b7 w C1 e1 C4 e4 C5 e5 C6 e6 C7 e7 hz1 dt4 hz5 dt6 hz7
  | true =>
  have hml := l1 rfl
  by_cases h0 : a0 = 1
  · exact Qf.is6 K a0 a1 a2 a3 a4 a5 ix s1 A1 c1 b1 A4 c4 b4 A5 c5 b5 A6 c6 b6 A7 c7 b7 w C1 e1 C4 e4 C5 e5 C6 e6 C7 e7 hz1 dt4 hz5 dt6 hz7 hml (by unfold Qf.spec_Terms.f; rw [bne_eq_false_iff_eq.2 h0])
  have htt : Qf.spec_Terms.f a0 a1 a2 a3 a4 a5 = some true := by
    unfold Qf.spec_Terms.f
    rw [bne_iff_ne.2 h0]
  obtain ⟨q1, p1, y1⟩ := small_f b1 (l1 rfl) K (by omega)
  cases q1 with
  | false => exact Qf.is7 K a0 a1 a2 a3 a4 a5 ix s1 A1 c1 b1 A4 c4 b4 A5 c5 b5 A6 c6 b6 A7 c7 b7 w C1 e1 C4 e4 C5 e5 C6 e6 C7 e7 hz1 dt4 hz5 dt6 hz7 hml htt p1
  | true =>
  obtain ⟨q5, p5, y5⟩ := small_f b5 (l5 rfl) K (by omega)
  cases q5 with
  | false => exact Qf.is8 K a0 a1 a2 a3 a4 a5 ix s1 A1 c1 b1 A4 c4 b4 A5 c5 b5 A6 c6 b6 A7 c7 b7 w C1 e1 C4 e4 C5 e5 C6 e6 C7 e7 hz1 dt4 hz5 dt6 hz7 hml htt p1 p5
  | true =>
  obtain ⟨q7, p7, y7⟩ := small_f b7 (l7 rfl) K (by omega)
  cases q7 with
  | false => exact Qf.is9 K a0 a1 a2 a3 a4 a5 ix s1 A1 c1 b1 A4 c4 b4 A5 c5 b5 A6 c6 b6 A7 c7 b7 w C1 e1 C4 e4 C5 e5 C6 e6 C7 e7 hz1 dt4 hz5 dt6 hz7 hml htt p1 p5 p7
  | true =>
  obtain ⟨s100, r1⟩ := y1 rfl
  obtain ⟨s500, r5⟩ := y5 rfl
  obtain ⟨s700, r7⟩ := y7 rfl
  by_cases u6 : 100000 < (b6.length : Int)
  · exact Qf.is10 K a0 a1 a2 a3 a4 a5 ix s1 A1 c1 b1 A4 c4 b4 A5 c5 b5 A6 c6 b6 A7 c7 b7 w C1 e1 C4 e4 C5 e5 C6 e6 C7 e7 hz1 dt4 hz5 dt6 hz7 hml htt p1 p5 p7 (decide_eq_true u6)
  have du6 := decide_eq_false u6
  by_cases u4 : 5000 < (b4.length : Int)
  · exact Qf.is11 K a0 a1 a2 a3 a4 a5 ix s1 A1 c1 b1 A4 c4 b4 A5 c5 b5 A6 c6 b6 A7 c7 b7 w C1 e1 C4 e4 C5 e5 C6 e6 C7 e7 hz1 dt4 hz5 dt6 hz7 hml htt p1 p5 p7 du6 (decide_eq_true u4)
  have du4 := decide_eq_false u4
  by_cases v1 : b1.length < s1
  · exact Qf.is12 K a0 a1 a2 a3 a4 a5 ix s1 A1 c1 b1 A4 c4 b4 A5 c5 b5 A6 c6 b6 A7 c7 b7 w C1 e1 C4 e4 C5 e5 C6 e6 C7 e7 hz1 dt4 hz5 dt6 hz7 hml htt p1 p5 p7 du6 du4 (decide_eq_true v1) (decide_eq_true (by omega))
  by_cases v2 : s1 ≤ ix
  · exact Qf.is13 K a0 a1 a2 a3 a4 a5 ix s1 A1 c1 b1 A4 c4 b4 A5 c5 b5 A6 c6 b6 A7 c7 b7 w C1 e1 C4 e4 C5 e5 C6 e6 C7 e7 hz1 dt4 hz5 dt6 hz7 hml htt p1 p5 p7 du6 du4 (decide_eq_false v1) (decide_eq_false (by omega)) (decide_eq_true v2) (decide_eq_true (by omega))
  obtain ⟨kr, hkr⟩ : ∃ kr, kr = 4000064 := ⟨_, rfl⟩
  have hll : ∀ j, ((fun j => b1.getD j []) j).length ≤ 5010 := fun j => Nat.le_trans (gd_of (p := fun x => x.length ≤ 5000) (by simp) r1 j) (by omega)
  have hrl := mt_len (a0 := a0) (a2 := a2) (a5 := a5) hll 64 0 b1.length (by omega) (by omega)
  have hroot := spec_root (a0 := a0) (a1 := a1) (a2 := a2) (a3 := a3) (a4 := a4) (a5 := a5) b1 64 kr b1 0 (by omega) (by omega) s100 (by omega) hll (fun i _ => by rw [Nat.zero_add])
  rw [Nat.zero_add] at hroot
  obtain ⟨vv, vs, hvi, hv0⟩ := vi_tell a0 a1 a2 a3 a4 a5 ix s1 hs64 b4 b5 b6 (by omega) (by omega) s500 r5
  have tr := fun (W : World) (hb : Below w.heap.size w W) => tree_ok a0 a1 a2 a3 a4 a5 A1 c1 b1 W (Kd.C_below C1 hb) e1 (Glob.below HG hb) r1 s100 (by omega)
  have stay := @leaf_stays a0 a2 a5 h0 b1 b5 b7 b4 b6 ix s1 r1 s100 (by omega) (by omega) (by omega) (by omega) r5 r7 (fun h hh => bt_of (f1 h hh)) (bt_of f4) (bt_of f6) (fun h hh => bt_of (f5 h hh)) (fun h hh => bt_of (f7 h hh))
  generalize mt a0 a2 a5 (fun j => b1.getD j []) 64 0 b1.length = r at hrl hroot tr stay
  have vi := fun (W : World) (hb : Below w.heap.size w W) => Qf.viF_calls a0 a1 a2 a3 a4 a5 (ix : Int) (s1 : Int) A4 c4 b4 A5 c5 b5 A6 c6 b6 vv vs W (Kd.C_below C4 hb) (Kd.C_below C5 hb) e5 (Kd.C_below C6 hb) hvi
  have vc := fun (W : World) (A : Option Addr) (c : Nat) (hb : Below w.heap.size w W) (hC : CB W A r) (hl : r.length ≤ c) => Qf.impl_vc_calls a0 a1 a2 a3 a4 a5 s1 b1.length hs64 (by omega) A6 c6 b6 A7 c7 b7 A c r W (Glob.below HG hb) (Kd.C_below C6 hb) (Kd.C_below C7 hb) e7 hC (by omega) s700 r7 (by omega)
  have st : Qf.spec_SameText.f r r = some true := congrArg some (sameB_self r)
  by_cases k1 : vv = 0
  case neg => exact Qf.is14 K a0 a1 a2 a3 a4 a5 ix s1 A1 c1 b1 A4 c4 b4 A5 c5 b5 A6 c6 b6 A7 c7 b7 w C1 e1 C4 e4 C5 e5 C6 e6 C7 e7 hz1 dt4 hz5 dt6 hz7 hml htt p1 p5 p7 du6 du4 (decide_eq_false v1) (decide_eq_false (by omega)) (decide_eq_false v2) (decide_eq_false (by omega)) (by omega) r (by omega) kr hroot st tr _ _ _ _ vi vc (bne_iff_ne.2 k1)
  have k1' := bne_eq_false_iff_eq.2 k1
  by_cases k2 : (Qf.vcF a0 a2 a5 s1 b1.length b7 b6 r).1 = 0
  case neg => exact Qf.is15 K a0 a1 a2 a3 a4 a5 ix s1 A1 c1 b1 A4 c4 b4 A5 c5 b5 A6 c6 b6 A7 c7 b7 w C1 e1 C4 e4 C5 e5 C6 e6 C7 e7 hz1 dt4 hz5 dt6 hz7 hml htt p1 p5 p7 du6 du4 (decide_eq_false v1) (decide_eq_false (by omega)) (decide_eq_false v2) (decide_eq_false (by omega)) (by omega) r (by omega) kr hroot st tr _ _ _ _ vi vc k1' (bne_iff_ne.2 k2)
  have k2' := bne_eq_false_iff_eq.2 k2
  have k3 := stay (hv0 k1) k2
  exact Qf.is16 K a0 a1 a2 a3 a4 a5 ix s1 A1 c1 b1 A4 c4 b4 A5 c5 b5 A6 c6 b6 A7 c7 b7 w C1 e1 C4 e4 C5 e5 C6 e6 C7 e7 hz1 dt4 hz5 dt6 hz7 hml htt p1 p5 p7 du6 du4 (decide_eq_false v1) (decide_eq_false (by omega)) (decide_eq_false v2) (decide_eq_false (by omega)) (by omega) r (by omega) kr hroot st tr _ _ _ _ vi vc k1' k2' (by rw [← k3]; exact congrArg some (sameB_self b4))
end Go.Proofs.YtfhcpniibiobgaaDoor.Pure
