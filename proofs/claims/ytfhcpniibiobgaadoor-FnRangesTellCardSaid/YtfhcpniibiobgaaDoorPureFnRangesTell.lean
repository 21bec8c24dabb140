/- FnRangesTell: what the walk asks, and the whole: plain. -/
import Derived.Test.YtfhcpniibiobgaaDoorGk
import Derived.Test.YtfhcpniibiobgaaDoorPt
import Derived.Test.YtfhcpniibiobgaaDoorPj
import Derived.Test.YtfhcpniibiobgaaDoorRz
namespace Go.Proofs.YtfhcpniibiobgaaDoor.Pure
open Go.RowKit Go.Proofs.YtfhcpniibiobgaaDoorW.PrintWords Go.Proofs.YtfhcpniibiobgaaDoorW.PrintMore Go.Proofs.YtfhcpniibiobgaaDoorW.PrintLast
open Hs (CB CL eqB sameF sameF_ne sameF_no sameF_yes)
open Go.Proofs.YtfhcpniibiobgaaDoor.M (nodesN leftN rightN pc)
open Core (IsNs tot mg stepL lsL)

theorem nat_of_wf {x : Int} (h : (Lit.int .u64 x).wf = true) : ∃ n : Nat, x = (n : Int) ∧ n < 18446744073709551616 := by
  have h2 : IntKind.u64.min ≤ x ∧ x ≤ IntKind.u64.max := by simpa [Lit.wf] using h
  have e1 : IntKind.u64.min = 0 := rfl
  have e2 : IntKind.u64.max = 18446744073709551615 := rfl
  exact ⟨x.toNat, by omega, by omega⟩
theorem texts_go (L : List (List Int)) (hL : L.length ≤ 5864062014804) (hrow : ∀ x ∈ L, x.length < 140737488355328) : ∀ (m j k : Nat), j + m = L.length → m < k → Qf.impl_texts.l0 k (L.take j) L (L.length : Int) (j : Int) = some L
  | 0, j, k + 1, h, _ => by
    unfold Qf.impl_texts.l0
    rw [if_neg (by omega), List.take_of_length_le (by omega)]
  | m + 1, j, k + 1, h, hk => by
    have hj : j < L.length := by omega
    have hx : Qf.rd_L1 L (j : Int) = L[j] := by
      show L.getD (j : Int).toNat [] = L[j]
      rw [Int.toNat_natCast, List.getD_eq_getElem?_getD, List.getElem?_eq_getElem hj]
      rfl
    unfold Qf.impl_texts.l0
    rw [if_pos (by omega), if_pos (by omega), if_pos (by omega), Option.bind_some, hx, List.nil_append, if_pos (by have := hrow L[j] (List.getElem_mem hj); simpa using this), if_pos (by rw [List.length_take]; omega), ← List.take_succ_eq_append_getElem hj, w64p _ (by omega), show ((j : Int) + 1) = ((j + 1 : Nat) : Int) by omega]
    exact texts_go L hL hrow m (j + 1) k (by omega) (by omega)
theorem texts_ok (L : List (List Int)) (k : Nat) (hk : L.length < k) (hL : L.length ≤ 5864062014804) (hrow : ∀ x ∈ L, x.length < 140737488355328) : Qf.impl_texts.f k L = some L := texts_go L hL hrow L.length 0 k (by omega) hk
theorem len64 (z : Nat) (h : z < 18446744073709551616) : Qf.bits_Len64.f (z : Int) = some ((Lib.bitLen z : Nat) : Int) := by
  unfold Qf.bits_Len64.f
  rw [if_pos (by omega), if_pos (by omega), Int.toNat_natCast]
theorem tz64 (z : Nat) (h : z < 18446744073709551616) : Qf.bits_TrailingZeros64.f (z : Int) = some ((Lib.ctz 64 z : Nat) : Int) := by
  unfold Qf.bits_TrailingZeros64.f
  rw [if_pos (by omega), if_pos (by omega), Int.toNat_natCast]
theorem ctz_zero : Lib.ctz 64 0 = 64 := rfl
theorem lt64 {x y : Nat} (hx : x < 18446744073709551616) (hy : y < 18446744073709551616) : x ^^^ y < 18446744073709551616 := Nat.xor_lt_two_pow (n := 64) hx hy
theorem wlast (h : Nat) (h1 : 1 ≤ h) (h2 : h ≤ 64) : IntKind.u64.wrap (wrap64 ((h : Int) - 1)) = ((h - 1 : Nat) : Int) := by
  rw [w64 (by omega) (by omega), wu64 (by omega) (by omega)]
  omega
theorem before (e : Nat) (he : e < 18446744073709551616) : ∃ pe : Nat, IntKind.u64.wrap ((e : Int) - 1) = (pe : Int) ∧ pe < 18446744073709551616 ∧ (e ≠ 0 → pe = e - 1) ∧ (e = 0 → pe = 18446744073709551615) := by
  by_cases h : e = 0
  · subst h
    exact ⟨18446744073709551615, rfl, by omega, fun h => absurd rfl h, fun _ => rfl⟩
  · exact ⟨e - 1, by rw [wu64 (by omega) (by omega)]; omega, by omega, fun _ => rfl, fun h' => absurd h' h⟩
theorem tie_min {h1 h2 : Nat} (t : Int) (u v : Int) (hu : u = ((h2 - 1 : Nat) : Int)) (hv : v = ((h1 - 1 : Nat) : Int)) : (if (h2 : Int) < (h1 : Int) then some (t, u) else some (t, v)) = some (t, ((min h1 h2 - 1 : Nat) : Int)) := by
  by_cases h : h2 < h1
  · rw [if_pos (by omega), hu, show min h1 h2 = h2 by omega]
  · rw [if_neg (by omega), hv, show min h1 h2 = h1 by omega]
theorem mp_of {b e : Nat} (hbe : b ≤ e) (he : e + 1 < 18446744073709551616) : ∃ low hgh n : Nat, Qf.compact_getMergePath.f (b : Int) (e : Int) ((e + 1 : Nat) : Int) = some ((low : Int), (hgh : Int)) ∧ IsNs b e n ∧ (n ≠ 0 → low = 0) ∧ low ≤ 64 ∧ hgh ≤ 63 ∧ ((hgh < low ∧ n = 0) ∨ low + n = hgh) := by
  obtain ⟨pe, p1, p2, p3, p4⟩ := before e (by omega)
  have hz2 : pe ^^^ (e + 1) ≠ 0 := Core.xor_ne (by
    by_cases h : e = 0
    · have := p4 h
      omega
    · have := p3 h
      omega)
  have hl2 := lt64 p2 he
  obtain ⟨g1, g2, g3, g4⟩ := M.len_spec _ hz2 hl2
  have c1 : e ≠ 0 → ∃ m, e = 2 ^ Lib.ctz 64 e * (2 * m + 1) := fun h => by
    obtain ⟨m, h1, _⟩ := M.ctz_spec e h (by omega)
    exact ⟨m, h1⟩
  have c2 : e = 0 → Lib.ctz 64 e = 64 := fun h => by rw [h]; rfl
  have c3 : Lib.ctz 64 e ≤ 64 := by
    by_cases h : e = 0
    · rw [c2 h]
      omega
    · obtain ⟨m, _, h2⟩ := M.ctz_spec e h (by omega)
      omega
  have ht : IntKind.u64.wrap ((Lib.ctz 64 e : Nat) : Int) = ((Lib.ctz 64 e : Nat) : Int) := wu64 (by omega) (by omega)
  have hh2 : e ≠ 0 → 1 ≤ Lib.bitLen (pe ^^^ (e + 1)) ∧ 2 ^ (Lib.bitLen (pe ^^^ (e + 1)) - 1) ≤ (e - 1) ^^^ (e + 1) ∧ (e - 1) ^^^ (e + 1) < 2 ^ Lib.bitLen (pe ^^^ (e + 1)) := fun h => by
    rw [← p3 h]
    exact ⟨g1, g3, g4⟩
  unfold Qf.compact_getMergePath.f
  rw [tz64 e (by omega), Option.bind_some, p1, bits_xor_u64_nat pe (e + 1) p2 he, len64 _ hl2]
  by_cases hb : b = 0
  · subst hb
    obtain ⟨n, q1, q2, q3⟩ := Core.path_of (h1 := 64) hbe (by omega) c1 c2 (fun h => absurd rfl h) (fun _ => rfl) hh2
    refine ⟨_, _, n, ?_, q1, q2, c3, ?_, q3⟩
    · rw [if_pos (by rfl), Option.bind_some, ht]
      exact tie_min (h1 := 64) _ _ _ (wlast _ g1 g2) (by omega)
    · omega
  · have hz1 : e ^^^ (b - 1) ≠ 0 := Core.xor_ne (by omega)
    have hl1 := lt64 (show e < 18446744073709551616 by omega) (show b - 1 < 18446744073709551616 by omega)
    obtain ⟨k1, k2, k3, k4⟩ := M.len_spec _ hz1 hl1
    obtain ⟨n, q1, q2, q3⟩ := Core.path_of (h1 := Lib.bitLen (e ^^^ (b - 1))) hbe (by omega) c1 c2 (fun _ => ⟨k1, k3, k4⟩) (fun h => absurd h hb) hh2
    refine ⟨_, _, n, ?_, q1, q2, c3, ?_, q3⟩
    · have e1 : IntKind.u64.wrap ((b : Int) - 1) = ((b - 1 : Nat) : Int) := by rw [wu64 (by omega) (by omega)]; omega
      rw [if_neg (by omega), e1, bits_xor_u64_nat e (b - 1) (by omega) (by omega), len64 _ hl1, Option.bind_some, Option.bind_some, ht]
      exact tie_min _ _ _ (wlast _ g1 g2) (wlast _ k1 k2)
    · omega

theorem tot_drop (len : List Int → Nat) (l : List (List Int)) (n : Nat) : tot len (l.drop n) ≤ tot len l := by
  have hd := Core.tot_append len (l.take n) (l.drop n)
  rw [List.take_append_drop] at hd
  omega
theorem getD_mem (l : List (List Int)) (i : Nat) (h : i < l.length) : l.getD i [] ∈ l := by
  rw [List.getD_eq_getElem?_getD, List.getElem?_eq_getElem h, Option.getD_some]
  exact List.getElem_mem h
theorem mg_some (a0 a1 a2 a3 a4 a5 : Int) (l : List (List Int)) (s : List Int) : ∀ n, n ≤ l.length → tot List.length l + s.length + 9 * n ≤ 100000000 → Qf.mgO a0 a1 a2 a3 a4 a5 l n s = some (mg (hcF a0 a2 a5) [] l n s)
  | 0, _, _ => rfl
  | n + 1, hn, ht => by
    have ih := mg_some a0 a1 a2 a3 a4 a5 l s n (by omega) (by omega)
    have hl := Core.mg_len (len := List.length) (d := []) (hcF_len a0 a2 a5) l s n (by omega)
    have hd := tot_drop List.length l (l.length - n)
    have hg := Core.tot_mem List.length (getD_mem l (l.length - (n + 1)) (by omega))
    have hl2 := Core.mg_len (len := List.length) (d := []) (hcF_len a0 a2 a5) l s (n + 1) hn
    have hd2 := tot_drop List.length l (l.length - (n + 1))
    rw [mg] at hl2
    rw [Qf.mgO, ih, Option.bind_some, toyHC _ _ _ _ _ _ _ _ (by omega) (by omega), Option.bind_some, if_pos (by omega)]
    rfl
theorem pc_ones : ∀ n, n ≤ 64 → pc 64 (2 ^ n - 1) = n
  | 0, _ => by
    rw [show 2 ^ 0 - 1 = 0 from rfl]
    exact M.pc_zero 64
  | n + 1, h => by
    have hp := Nat.two_pow_pos n
    rw [Nat.pow_succ, show 2 ^ n * 2 - 1 = 2 ^ n + (2 ^ n - 1) by omega, M.pc_top 64 n (2 ^ n - 1) (by omega) (by omega), pc_ones n (by omega)]
    omega
theorem ones_at {x n : Nat} (hx : x < 18446744073709551616) (hn : n ≤ 63) (h : x % 2 ^ n = 2 ^ n - 1) : Qf.bits_OnesCount64.f (Go.bits .and .u64 (x : Int) (IntKind.u64.wrap (IntKind.u64.wrap ((2 : Int) ^ n) - 1))) = some (n : Int) := by
  have hp := Nat.two_pow_pos n
  have hlt : 2 ^ n < 18446744073709551616 := Nat.lt_of_le_of_lt (Nat.pow_le_pow_right (by omega) hn) (by omega)
  have e1 : IntKind.u64.wrap ((2 : Int) ^ n) = ((2 ^ n : Nat) : Int) := by
    rw [show ((2 : Int) ^ n) = ((2 ^ n : Nat) : Int) by push_cast; rfl]
    exact wu64 (by omega) (by omega)
  have e2 : IntKind.u64.wrap (((2 ^ n : Nat) : Int) - 1) = ((2 ^ n - 1 : Nat) : Int) := by
    rw [wu64 (by omega) (by omega)]
    omega
  rw [e1, e2, bits_and_u64_nat x (2 ^ n - 1) hx (by omega), Nat.and_two_pow_sub_one_eq_mod, h, onesCount_of _ (by omega), pc_ones n (by omega)]
theorem ones_none {x : Nat} (hx : x < 18446744073709551616) : Qf.bits_OnesCount64.f (Go.bits .and .u64 (x : Int) 0) = some 0 := by
  rw [show (0 : Int) = ((0 : Nat) : Int) from rfl, bits_and_u64_nat x 0 hx (by omega), Nat.and_zero, onesCount_of 0 (by omega), M.pc_zero]
theorem mstep_of (a0 a1 a2 a3 a4 a5 : Int) {b e n : Nat} (l : List (List Int)) (s : List Int) (hbe : b ≤ e) (he : e + 1 < 18446744073709551616) (hn : IsNs b e n) (hnl : n ≤ l.length) (ht : tot List.length l + s.length + 9 * n ≤ 100000000) : Qf.MStep a0 a1 a2 a3 a4 a5 b e l s (stepL (hcF a0 a2 a5) [] n l s) := by
  obtain ⟨low, hgh, n', hf, hi, h0, hl, hh, hc⟩ := mp_of hbe he
  obtain rfl := Core.isNs_uniq hn hi
  have hdx : e / 2 ^ low < 18446744073709551616 := Nat.lt_of_le_of_lt (Nat.div_le_self _ _) (by omega)
  have hcast : (e : Int) / 2 ^ low = ((e / 2 ^ low : Nat) : Int) := by push_cast; rfl
  refine ⟨low, hgh, hf, ?_⟩
  rcases hc with ⟨hlt, hz⟩ | hadd
  · refine .inl ⟨hlt, hl, by rw [hcast]; exact ones_none hdx, ?_⟩
    rw [hz]
    unfold stepL
    rw [Nat.sub_zero, List.take_length]
    rfl
  · refine .inr ⟨n, _, hadd, by omega, hnl, ?_, ?_, mg_some a0 a1 a2 a3 a4 a5 l s n hnl ht, rfl⟩
    · rw [hcast]
      refine ones_at hdx (by omega) ?_
      by_cases hz : n = 0
      · subst hz
        omega
      · rw [h0 hz, Nat.pow_zero, Nat.div_one]
        exact Core.low_all hn.1
    · intro i hi
      rw [h0 (by omega), Nat.pow_zero, Nat.div_one]
      exact Core.ones_below hn.1 hi
theorem rsize_of {b e L R X d : Nat} (hf : Qf.compact_Decompose.f (b : Int) (e : Int) = some ((L : Int), (R : Int))) (hm : Mid b e L R X d) (he : e < 18446744073709551616) : Qf.compact_RangeSize.f (b : Int) (e : Int) = some ((pc 64 L + pc 64 R : Nat) : Int) := by
  have hX : L ≤ X := by have := hm.lo; omega
  have p1 := M.leftN_pc X d hm.d64 hm.dvd 64 L (Nat.le_refl _) hm.l hX (by simp)
  have p2 := M.rightN_pc e d R hm.d64 hm.r
  have s := size_of hf hm he
  rw [nodesN_len hm.d64 hm.r, p1, p2] at s
  exact s
section
variable {a0 a1 a2 a3 a4 a5 : Int} {b : Nat} {ns : Nat → Nat}
theorem len_of (hns : ∀ j, IsNs b (b + j) (ns j)) (F : Nat → List Int) (j : Nat) (hj : b + j < 18446744073709551616) : Qf.compact_RangeSize.f (b : Int) ((b + j : Nat) : Int) = some ((lsL (hcF a0 a2 a5) [] ns F j).length : Int) := by
  obtain ⟨L, R, X, d, hf, hm⟩ := decompose_of b (b + j) (by omega) hj
  have h1 := Core.len_left (H := hcF a0 a2 a5) (d := []) (M := F) (pc := pc 64) (M.pc_zero 64) (fun n r h1 h2 => M.pc_top 64 n r h1 h2) hns d X hm.d64 (by have := hm.lo; omega) hm.dvd (by have := hm.lo; have := hm.l; omega)
  have h2 := Core.len_right (H := hcF a0 a2 a5) (d := []) (M := F) (pc := pc 64) (M.pc_zero 64) (fun n r h1 h2 => M.pc_top 64 n r h1 h2) hns d X R hm.d64 (by have := hm.lo; omega) hm.dvd hm.r
  rw [rsize_of hf hm hj]
  have e1 : X + R - b = j := by have := hm.lo; have := hm.hi; omega
  have e2 : X - b = L := by have := hm.lo; omega
  rw [e1, h1, e2] at h2
  rw [h2]
theorem tot_of (hns : ∀ j, IsNs b (b + j) (ns j)) (M : List (List Int)) (hM : ∀ x ∈ M, x.length ≤ 5000) (h300 : M.length ≤ 300) (j : Nat) (hj : j ≤ M.length) : tot List.length (lsL (hcF a0 a2 a5) [] ns (fun j => M.getD j []) j) ≤ 2310000 := by
  have h := Core.lsL_tot (len := List.length) (d := []) (M := fun j => M.getD j []) (hcF_len a0 a2 a5) hns 5000 j (fun i hi => hM _ (getD_mem M i (by omega)))
  have h2 : j * (5000 + 9 * j) ≤ 300 * (5000 + 9 * 300) := Nat.mul_le_mul (by omega) (by omega)
  omega
theorem apOk_of (hns : ∀ j, IsNs b (b + j) (ns j)) (M : List (List Int)) (hM : ∀ x ∈ M, x.length ≤ 5000) (h300 : M.length ≤ 300) (he : b + M.length < 18446744073709551616) (k : Nat) (hk : 1000 ≤ k) : Qf.ApOk a0 a1 a2 a3 a4 a5 b M (lsL (hcF a0 a2 a5) [] ns (fun j => M.getD j [])) k where
  t0 := texts_ok [] k (by simp; omega) (by simp) (fun x hx => by simp at hx)
  tM := texts_ok M k (by omega) (by omega) (fun x hx => by have := hM x hx; omega)
  te := by
    have hl := Core.lsL_len_le (H := hcF a0 a2 a5) (d := []) (ns := ns) (M := fun j => M.getD j []) M.length
    refine texts_ok _ k (by omega) (by omega) (fun x hx => ?_)
    have h1 := Core.tot_mem List.length hx
    have h2 := tot_of (a0 := a0) (a2 := a2) (a5 := a5) hns M hM h300 M.length (Nat.le_refl _)
    omega
  sz0 := len_of (a0 := a0) (a2 := a2) (a5 := a5) hns (fun j => M.getD j []) 0 (by omega)
  sze := len_of hns _ M.length he
  he := he
  hMl := h300
  hMr := fun j hj => by
    have := hM _ (getD_mem M j hj)
    omega
  hs0 := rfl
  hst := fun j hj => by
    have h1 := tot_of (a0 := a0) (a2 := a2) (a5 := a5) hns M hM h300 j (by omega)
    have h2 := hM _ (getD_mem M j hj)
    have h3 := Core.ns_le (H := hcF a0 a2 a5) (d := []) (M := fun j => M.getD j []) hns j
    have h4 := Core.lsL_len_le (H := hcF a0 a2 a5) (d := []) (ns := ns) (M := fun j => M.getD j []) j
    exact mstep_of a0 a1 a2 a3 a4 a5 _ _ (by omega) (by omega) (hns j) h3 (by omega)
  hsl := fun j hj => by
    have h4 := Core.lsL_len_le (H := hcF a0 a2 a5) (d := []) (ns := ns) (M := fun j => M.getD j []) j
    omega
theorem mg_bt {l : List (List Int)} (hl : ∀ x ∈ l, Bt x) {s : List Int} (hs : Bt s) : ∀ n, n ≤ l.length → Bt (mg (hcF a0 a2 a5) [] l n s)
  | 0, _ => hs
  | n + 1, hn => hcF_bt a0 a2 a5 (hl _ (getD_mem l _ (by omega))) (mg_bt hl hs n (by omega))
theorem ls_bt (hns : ∀ j, IsNs b (b + j) (ns j)) {M : List (List Int)} (hM : ∀ x ∈ M, Bt x) (j : Nat) (hj : j ≤ M.length) : ∀ x ∈ lsL (hcF a0 a2 a5) [] ns (fun j => M.getD j []) j, Bt x := by
  induction j with
  | zero =>
    intro x hx
    simp [lsL] at hx
  | succ j ih =>
    intro x hx
    rw [lsL, stepL, List.mem_append] at hx
    rcases hx with hx | hx
    · exact ih (by omega) x (List.mem_of_mem_take hx)
    · obtain rfl := List.mem_singleton.1 hx
      exact mg_bt (ih (by omega)) (hM _ (getD_mem M j (by omega))) _ (Core.ns_le hns j)
theorem same_of (h0 : a0 ≠ 1) (hns : ∀ j, IsNs b (b + j) (ns j)) {L M : List (List Int)} (hlm : L.length = M.length) (hL : ∀ x ∈ L, Bt x) (hM : ∀ x ∈ M, Bt x) (rL : ∀ x ∈ L, x.length ≤ 5000) (rM : ∀ x ∈ M, x.length ≤ 5000) (h300 : L.length ≤ 300) : sameF (lsL (hcF a0 a2 a5) [] ns (fun j => L.getD j []) L.length) (lsL (hcF a0 a2 a5) [] ns (fun j => M.getD j []) M.length) = sameF L M := by
  rw [sameF_iff (ls_bt hns hL _ (Nat.le_refl _)) (ls_bt hns hM _ (Nat.le_refl _)), sameF_iff hL hM]
  by_cases h : L = M
  · subst h
    rw [decide_eq_true rfl, decide_eq_true rfl]
  · rw [decide_eq_false h]
    refine decide_eq_false fun he => h ?_
    rw [← hlm] at he
    have hb : ∀ (W : List (List Int)), (∀ x ∈ W, x.length ≤ 5000) → W.length = L.length → ∀ i, i ≤ L.length → ∀ x ∈ lsL (hcF a0 a2 a5) [] ns (fun j => W.getD j []) i, x.length < 18446744073709551616 := fun W hW hl i hi x hx => by
      have h1 := Core.tot_mem List.length hx
      have h2 := tot_of (a0 := a0) (a2 := a2) (a5 := a5) hns W hW (by omega) i (by omega)
      omega
    have hi := Core.lsL_inj (P := fun x : List Int => x.length < 18446744073709551616) (fun x y x' y' h1 h2 h => hcF_inj h0 h1 h2 h) hns L.length (hb L rL rfl) (hb M rM hlm.symm) he
    refine List.ext_getElem hlm fun i h1 h2 => ?_
    have h3 := hi i h1
    simp only [List.getD_eq_getElem?_getD] at h3
    rw [List.getElem?_eq_getElem h1, List.getElem?_eq_getElem h2] at h3
    exact h3
end
theorem bytes_of {L : List (List Int)} (h : ∀ x ∈ L, ∀ n ∈ x, (Lit.int .u8 n).wf = true) : ∀ x ∈ L, Bt x := fun x hx => bt_of (h x hx)
theorem rangesTell (a0 a1 a2 a3 a4 a5 x : Int) (A : Option Addr) (c : Nat) (L : List (List Int)) (A2 : Option Addr) (c2 : Nat) (M : List (List Int)) (w : World) (wb : (Lit.int .u64 x).wf = true) (hl : CL w A L) (hc : L.length ≤ c) (hm : CL w A2 M) (hc2 : M.length ≤ c2) (bL : ∀ x ∈ L, ∀ n ∈ x, (Lit.int .u8 n).wf = true) (bM : ∀ x ∈ M, ∀ n ∈ x, (Lit.int .u8 n).wf = true) (HG : Glob w) :
    Calls Tryd.prog 7 #[.agg #[.int .i64 a0, .int .i64 a1, .int .i64 a2, .int .u64 a3, .int .u64 a4, .int .u64 a5], .int .u64 x, .slice A L.length c, .slice A2 M.length c2] w fun e w' => e = .returned (.bool true) ∧ Below w.heap.size w w' := by
  obtain ⟨b, rfl, hb⟩ := nat_of_wf wb
  obtain ⟨K, hK⟩ : ∃ K, K = 2147483648 := ⟨_, rfl⟩
  obtain ⟨z1, hz1, l1⟩ := zz_f L K (by omega)
  cases z1 with
  | false => exact Qf.rt1 K a0 a1 a2 a3 a4 a5 b A c L A2 c2 M w hl hc hm hc2 hz1
  | true =>
  obtain ⟨z2, hz2, l2⟩ := zz_f M K (by omega)
  cases z2 with
  | false => exact Qf.rt2 K a0 a1 a2 a3 a4 a5 b A c L A2 c2 M w hl hc hm hc2 hz1 hz2
  | true =>
  by_cases h0 : a0 = 1
  · exact Qf.rt3 K a0 a1 a2 a3 a4 a5 b A c L A2 c2 M w hl hc hm hc2 hz1 hz2 (by unfold Qf.spec_Terms.f; rw [bne_eq_false_iff_eq.2 h0])
  have htt : Qf.spec_Terms.f a0 a1 a2 a3 a4 a5 = some true := by
    unfold Qf.spec_Terms.f
    rw [bne_iff_ne.2 h0]
  by_cases hlm : L.length = M.length
  · obtain ⟨s1, hs1, m1⟩ := small_f L (l1 rfl) K (by omega)
    have hrr : Qf.laws_rangeRoom.f K (b : Int) (b : Int) [] L = some (s1 && decide (b + L.length < 18446744073709551616)) := by
      unfold Qf.laws_rangeRoom.f
      rw [hs1, Option.bind_some]
      cases s1 with
      | false => rfl
      | true =>
        have h300 := (m1 rfl).1
        rw [if_pos rfl, Bool.true_and]
        refine congrArg some ?_
        rw [wu64 (n := (L.length : Int)) (by omega) (by omega)]
        show decide (((b : Int) + (L.length : Int)) % 18446744073709551616 ≥ (b : Int)) = _
        by_cases h : b + L.length < 18446744073709551616
        · rw [decide_eq_true h, decide_eq_true (by omega)]
        · rw [decide_eq_false h, decide_eq_false (by omega)]
    rcases hv : s1 && decide (b + L.length < 18446744073709551616) with _ | _
    · rw [hv] at hrr
      exact Qf.rt5 K a0 a1 a2 a3 a4 a5 b A c L A2 c2 M w hl hc hm hc2 hz1 hz2 htt hlm hrr
    · rw [hv] at hrr
      rw [Bool.and_eq_true, decide_eq_true_eq] at hv
      obtain ⟨h300, rL⟩ := m1 hv.1
      obtain ⟨s2, hs2, m2⟩ := small_f M (l2 rfl) K (by omega)
      cases s2 with
      | false => exact Qf.rt6 K a0 a1 a2 a3 a4 a5 b A c L A2 c2 M w hl hc hm hc2 hz1 hz2 htt hlm hrr hs2
      | true =>
        obtain ⟨_, rM⟩ := m2 rfl
        obtain ⟨ns, hns⟩ : ∃ ns : Nat → Nat, ∀ j, IsNs b (b + j) (ns j) := ⟨fun j => Classical.choose (Core.ns_ex (show b ≤ b + j by omega)), fun j => Classical.choose_spec (Core.ns_ex (show b ≤ b + j by omega))⟩
        exact Qf.rt7 K a0 a1 a2 a3 a4 a5 b A c L A2 c2 M w hl hc hm hc2 hz1 hz2 htt hlm hrr hs2 HG 1000 _ _ (apOk_of hns L rL h300 hv.2 1000 (by omega)) (apOk_of hns M rM (by omega) (by rw [← hlm]; exact hv.2) 1000 (by omega)) (same_of h0 hns hlm (bytes_of bL) (bytes_of bM) rL rM h300)
  · exact Qf.rt4 K a0 a1 a2 a3 a4 a5 b A c L A2 c2 M w hl hc hm hc2 hz1 hz2 htt hlm
end Go.Proofs.YtfhcpniibiobgaaDoor.Pure
