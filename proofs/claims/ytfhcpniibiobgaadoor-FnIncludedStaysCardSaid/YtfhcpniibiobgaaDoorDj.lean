/- impl.VerifyConsistency, as a function of its arguments. -/
import Derived.Test.YtfhcpniibiobgaaDoorJd
import Derived.Test.YtfhcpniibiobgaaDoorJp
namespace Go.Proofs.YtfhcpniibiobgaaDoor.Qf
open Go.RowKit Go.Proofs.YtfhcpniibiobgaaDoorW.PrintWords Go.Proofs.YtfhcpniibiobgaaDoorW.PrintLast Go.Proofs.YtfhcpniibiobgaaDoorW.PrintMore
open Hs (CB CL at_L at_B infoB infoL R_of_blk)
open Go.Proofs.YtfhcpniibiobgaaDoor.Pure (hcF chI chB chR chI_len chB_len chR_len toyI toyB toyR rootsF rootsF_ch rootsF_len decomp_f inn_le pc_le inn_big inn_vlen start_plus)
open Go.Proofs.YtfhcpniibiobgaaDoor.M (inn vlen pc)

theorem texts_go (L : List (List Int)) (hL : L.length ≤ 5864062014804) (hrow : ∀ x ∈ L, x.length < 140737488355328) : ∀ (m j k : Nat), j + m = L.length → m < k → impl_texts.l0 k (L.take j) L (L.length : Int) (j : Int) = some L
  | 0, j, k + 1, h, _ => by
    unfold impl_texts.l0
    rw [if_neg (by omega), List.take_of_length_le (by omega)]
  | m + 1, j, k + 1, h, hk => by
    have hj : j < L.length := by omega
    have hx : rd_L1 L (j : Int) = L[j] := by
      show L.getD (j : Int).toNat [] = L[j]
      rw [Int.toNat_natCast, List.getD_eq_getElem?_getD, List.getElem?_eq_getElem hj]
      rfl
    unfold impl_texts.l0
    rw [if_pos (by omega), if_pos (by omega), if_pos (by omega), Option.bind_some, hx, List.nil_append, if_pos (by have := hrow L[j] (List.getElem_mem hj); simpa using this), if_pos (by rw [List.length_take]; omega), ← List.take_succ_eq_append_getElem hj, w64_in _ (by omega), show ((j : Int) + 1) = ((j + 1 : Nat) : Int) by omega]
    exact texts_go L hL hrow m (j + 1) k (by omega) (by omega)
theorem texts_ok (L : List (List Int)) (hL : L.length ≤ 5864062014804) (hrow : ∀ x ∈ L, x.length < 140737488355328) : impl_texts.f (L.length + 1) L = some L := texts_go L hL hrow L.length 0 (L.length + 1) (by omega) (by omega)
theorem nilR (W : World) (b : Nat) : Kd.R (Kd.int .u8) 5 W b (fun _ => True) (.slice none 0 0) ([] : List Int) :=
  ⟨fun _ _ => trivial, [], World.ownsRow_nil W b 5 1, Reps.none _ _⟩

/-- Where a consistency proof begins: without a hash for the first part if that is the whole first log. -/
def vcSt (s1 : Nat) : Nat := if s1 = 2 ^ Lib.ctz 64 s1 then 0 else 1
/-- What is answered of a consistency proof. -/
def vcF (a0 a2 a5 : Int) (s1 s2 : Nat) (L : List (List Int)) (r1 r2 : List Int) : Int × List Int :=
  if s2 < s1 then (2, []) else
  if s1 = s2 then (if 0 < L.length then (2, []) else if sameB r1 r2 then (0, []) else (1, r1)) else
  if s1 = 0 then (if 0 < L.length then (2, []) else (0, [])) else
  if L.length + Lib.ctz 64 s1 ≠ vcSt s1 + vlen (s1 - 1) s2 then (2, []) else
  if sameB (rootsF a0 a2 a5 s1 64 0 s2 true L r1).1 r1 then (if sameB (rootsF a0 a2 a5 s1 64 0 s2 true L r1).2 r2 then (0, []) else (1, (rootsF a0 a2 a5 s1 64 0 s2 true L r1).2)) else (1, (rootsF a0 a2 a5 s1 64 0 s2 true L r1).1)

/-- What the walk of the program's function asks for. -/
abbrev VCok (w : World) (a0 a1 a2 a3 a4 a5 : Int) (s1 s2 : Nat) (l1 : List Int) (L : List (List Int)) (l3 : List Int) (x : Int × List Int) : Prop :=
  ∀ (W : World) (B1 : Option Addr) (d1 : Nat) (B2 : Option Addr) (d2 : Nat) (B3 : Option Addr) (d3 : Nat), Below w.heap.size w W → CB W B1 l1 → l1.length ≤ d1 → CL W B2 L → L.length ≤ d2 → CB W B3 l3 → l3.length ≤ d3 →
      Calls Tryd.prog 60 #[toyV a0 a1 a2 a3 a4 a5, .int .u64 (s1 : Int), .int .u64 (s2 : Int), .slice B2 L.length d2, .slice B1 l1.length d1, .slice B3 l3.length d3] W fun e W' => ∃ v, e = .returned v ∧ Below W.heap.size W W' ∧
        Calls Tryd.prog 59 #[v] W' fun e' W'' => ∃ v2, e' = .returned (.tuple #[.int .i64 x.1, v2]) ∧ Kd.R (Kd.int .u8) 5 W'' W'.heap.size (fun _ => True) v2 x.2 ∧ Below W'.heap.size W' W''

theorem ok_err {w : World} {a0 a1 a2 a3 a4 a5 : Int} {s1 s2 : Nat} {l1 : List Int} {L : List (List Int)} {l3 : List Int}
    (h : ∀ (W : World) (B1 : Option Addr) (d1 : Nat) (B2 : Option Addr) (d2 : Nat) (B3 : Option Addr) (d3 : Nat), Below w.heap.size w W → CB W B1 l1 → l1.length ≤ d1 → CL W B2 L → L.length ≤ d2 → CB W B3 l3 → l3.length ≤ d3 →
      Calls Tryd.prog 60 #[toyV a0 a1 a2 a3 a4 a5, .int .u64 (s1 : Int), .int .u64 (s2 : Int), .slice B2 L.length d2, .slice B1 l1.length d1, .slice B3 l3.length d3] W fun e W' => ∃ x, e = .returned (.iface 175 (.pointer (some x))) ∧ Below W.heap.size W W') : VCok w a0 a1 a2 a3 a4 a5 s1 s2 l1 L l3 (2, []) :=
  fun W B1 d1 B2 d2 B3 d3 hb k1 e1 k2 e2 k3 e3 => (h W B1 d1 B2 d2 B3 d3 hb k1 e1 k2 e2 k3 e3).mono fun _ W' ⟨x, he', hbl⟩ => ⟨_, he', hbl, (verdict_err x W').mono fun _ _ ⟨he2, hb2⟩ => ⟨_, he2, nilR _ _, hb2⟩⟩
theorem ok_nil {w : World} {a0 a1 a2 a3 a4 a5 : Int} {s1 s2 : Nat} {l1 : List Int} {L : List (List Int)} {l3 : List Int}
    (h : ∀ (W : World) (B1 : Option Addr) (d1 : Nat) (B2 : Option Addr) (d2 : Nat) (B3 : Option Addr) (d3 : Nat), Below w.heap.size w W → CB W B1 l1 → l1.length ≤ d1 → CL W B2 L → L.length ≤ d2 → CB W B3 l3 → l3.length ≤ d3 →
      Calls Tryd.prog 60 #[toyV a0 a1 a2 a3 a4 a5, .int .u64 (s1 : Int), .int .u64 (s2 : Int), .slice B2 L.length d2, .slice B1 l1.length d1, .slice B3 l3.length d3] W fun e W' => e = .returned .nilIface ∧ Below W.heap.size W W') : VCok w a0 a1 a2 a3 a4 a5 s1 s2 l1 L l3 (0, []) :=
  fun W B1 d1 B2 d2 B3 d3 hb k1 e1 k2 e2 k3 e3 => (h W B1 d1 B2 d2 B3 d3 hb k1 e1 k2 e2 k3 e3).mono fun _ W' ⟨he', hbl⟩ => ⟨_, he', hbl, (verdict_nil W').mono fun _ _ ⟨he2, hb2⟩ => ⟨_, he2, nilR _ _, hb2⟩⟩
theorem ok_other {w : World} {a0 a1 a2 a3 a4 a5 : Int} {s1 s2 : Nat} {l1 : List Int} {L : List (List Int)} {l3 q : List Int} (hq : q.length ≤ 140737488351232)
    (h : ∀ (W : World) (B1 : Option Addr) (d1 : Nat) (B2 : Option Addr) (d2 : Nat) (B3 : Option Addr) (d3 : Nat), Below w.heap.size w W → CB W B1 l1 → l1.length ≤ d1 → CL W B2 L → L.length ≤ d2 → CB W B3 l3 → l3.length ≤ d3 →
      Calls Tryd.prog 60 #[toyV a0 a1 a2 a3 a4 a5, .int .u64 (s1 : Int), .int .u64 (s2 : Int), .slice B2 L.length d2, .slice B1 l1.length d1, .slice B3 l3.length d3] W fun e W' => ∃ A5 n5 c5 A' c', e = .returned (.iface 156 (.agg #[.slice A5 n5 c5, .slice A' q.length c'])) ∧ q.length ≤ c' ∧ CB W' A' q ∧ Below W.heap.size W W') : VCok w a0 a1 a2 a3 a4 a5 s1 s2 l1 L l3 (1, q) :=
  fun W B1 d1 B2 d2 B3 d3 hb k1 e1 k2 e2 k3 e3 => (h W B1 d1 B2 d2 B3 d3 hb k1 e1 k2 e2 k3 e3).mono fun _ W' ⟨A5, n5, c5, A', c', he', _, hC, hbl⟩ => ⟨_, he', hbl, verdict_other A5 c5 n5 A' c' q W' hC hq⟩

set_option maxHeartbeats 1000000 in
set_option maxRecDepth 100000 in
theorem vc_same (a0 a1 a2 a3 a4 a5 : Int) (s1 s2 : Nat) (A : Option Addr) (n c : Nat) (A1 : Option Addr) (c1 : Nat) (r1 : List Int) (A2 : Option Addr) (c2 : Nat) (r2 : List Int) (h : s1 = s2) (hn : n = 0) (w : World) (h1 : CB w A1 r1) (hc1 : r1.length ≤ c1) (h2 : CB w A2 r2) (hc2 : r2.length ≤ c2) (hs : sameB r1 r2 = true) :
    Calls Tryd.prog 60 #[toyV a0 a1 a2 a3 a4 a5, .int .u64 (s1 : Nat), .int .u64 (s2 : Nat), .slice A n c, .slice A1 r1.length c1, .slice A2 r2.length c2] w fun e w' => e = .returned .nilIface ∧ Below w.heap.size w w' := by
  have t1 : decide (s2 < s1) = false := decide_eq_false (by omega)
  have t1i : decide ((s2 : Int) < (s1 : Int)) = false := decide_eq_false (by omega)
  have t2 : (s1 == s2) = true := beq_iff_eq.2 (by omega)
  have g1 : decide (0 < n) = false := decide_eq_false (by omega)
  have t2i : ((s1 : Int) == (s2 : Int)) = true := beq_iff_eq.2 (by omega)
  have g1i : decide ((0 : Int) < (n : Int)) = false := decide_eq_false (by omega)
  have H1 := Aside0.mk h1
  have H2 := Aside0.mk h2
  have HS := Aside0.mk hs
  clear h hn h1 h2 hs
  go_enter Tryd.func60, Tryd.ntmps60
  go_wp2_with (go_at_call 92; (with_reducible refine (match_yes _ _ r1 _ _ r2 _ H1.out hc1 H2.out hc2 HS.out).mono ?_); rintro e w6 ⟨rfl, hb⟩; have HB := Aside0.mk hb; clear hb)
  go_ret
  exact ⟨rfl, HB.out⟩
set_option maxHeartbeats 1000000 in
set_option maxRecDepth 100000 in
theorem vc_diff (a0 a1 a2 a3 a4 a5 : Int) (s1 s2 : Nat) (A : Option Addr) (n c : Nat) (A1 : Option Addr) (c1 : Nat) (r1 : List Int) (A2 : Option Addr) (c2 : Nat) (r2 : List Int) (h : s1 = s2) (hn : n = 0) (w : World) (h1 : CB w A1 r1) (hc1 : r1.length ≤ c1) (h2 : CB w A2 r2) (hc2 : r2.length ≤ c2) (hs : sameB r1 r2 = false) :
    Calls Tryd.prog 60 #[toyV a0 a1 a2 a3 a4 a5, .int .u64 (s1 : Nat), .int .u64 (s2 : Nat), .slice A n c, .slice A1 r1.length c1, .slice A2 r2.length c2] w fun e w' => ∃ A5 n5 c5 A' c', e = .returned (.iface 156 (.agg #[.slice A5 n5 c5, .slice A' r1.length c'])) ∧ r1.length ≤ c' ∧ CB w' A' r1 ∧ Below w.heap.size w w' := by
  have t1 : decide (s2 < s1) = false := decide_eq_false (by omega)
  have t1i : decide ((s2 : Int) < (s1 : Int)) = false := decide_eq_false (by omega)
  have t2 : (s1 == s2) = true := beq_iff_eq.2 (by omega)
  have g1 : decide (0 < n) = false := decide_eq_false (by omega)
  have t2i : ((s1 : Int) == (s2 : Int)) = true := beq_iff_eq.2 (by omega)
  have g1i : decide ((0 : Int) < (n : Int)) = false := decide_eq_false (by omega)
  have H1 := Aside0.mk h1
  have H2 := Aside0.mk h2
  have HS := Aside0.mk hs
  clear h hn h1 h2 hs
  go_enter Tryd.func60, Tryd.ntmps60
  go_wp2_with (go_at_call 92; (with_reducible refine (match_no _ _ r1 _ _ r2 _ H1.out hc1 H2.out hc2 HS.out).mono ?_); rintro e w6 ⟨rfl, hb⟩; have HB := Aside0.mk hb; clear hb)
  go_ret
  exact ⟨_, _, _, _, _, rfl, hc1, Kd.C_below H1.out HB.out, HB.out⟩

theorem vc_ok (a0 a1 a2 a3 a4 a5 : Int) (s1 s2 : Nat) (hs1 : s1 < 18446744073709551616) (hs2 : s2 < 18446744073709551616) (l1 : List Int) (L : List (List Int)) (l3 : List Int) (w : World) (HG : Glob w) (hl1 : l1.length ≤ 100000) (hL : L.length ≤ 300) (hrow : ∀ h ∈ L, h.length ≤ 5000) : VCok w a0 a1 a2 a3 a4 a5 s1 s2 l1 L l3 (vcF a0 a2 a5 s1 s2 L l1 l3) := by
  unfold vcF
  by_cases c1 : s2 < s1
  · rw [if_pos c1]
    exact ok_err fun W B1 d1 B2 d2 B3 d3 hb k1 e1 k2 e2 k3 e3 => vc_err1 a0 a1 a2 a3 a4 a5 s1 s2 B2 L.length d2 B1 l1.length d1 B3 l3.length d3 c1 W
  rw [if_neg c1]
  by_cases c2 : s1 = s2
  · rw [if_pos c2]
    by_cases c3 : 0 < L.length
    · rw [if_pos c3]
      exact ok_err fun W B1 d1 B2 d2 B3 d3 hb k1 e1 k2 e2 k3 e3 => vc_err2 a0 a1 a2 a3 a4 a5 s1 s2 B2 L.length d2 B1 l1.length d1 B3 l3.length d3 c2 c3 W
    rw [if_neg c3]
    by_cases c4 : sameB l1 l3 = true
    · rw [if_pos c4]
      exact ok_nil fun W B1 d1 B2 d2 B3 d3 hb k1 e1 k2 e2 k3 e3 => vc_same a0 a1 a2 a3 a4 a5 s1 s2 B2 L.length d2 B1 d1 l1 B3 d3 l3 c2 (by omega) W k1 e1 k3 e3 c4
    · rw [if_neg c4]
      exact ok_other (by omega) fun W B1 d1 B2 d2 B3 d3 hb k1 e1 k2 e2 k3 e3 => vc_diff a0 a1 a2 a3 a4 a5 s1 s2 B2 L.length d2 B1 d1 l1 B3 d3 l3 c2 (by omega) W k1 e1 k3 e3 (by simpa using c4)
  rw [if_neg c2]
  by_cases c3 : s1 = 0
  · rw [if_pos c3]
    by_cases c4 : 0 < L.length
    · rw [if_pos c4]
      exact ok_err fun W B1 d1 B2 d2 B3 d3 hb k1 e1 k2 e2 k3 e3 => vc_err3 a0 a1 a2 a3 a4 a5 s1 s2 B2 L.length d2 B1 l1.length d1 B3 l3.length d3 c3 (by omega) c4 W
    · rw [if_neg c4]
      exact ok_nil fun W B1 d1 B2 d2 B3 d3 hb k1 e1 k2 e2 k3 e3 => (vc_zero a0 a1 a2 a3 a4 a5 s1 s2 B2 L.length d2 B1 l1.length d1 B3 l3.length d3 c3 (by omega) (by omega) W).mono fun _ _ ⟨he, hw⟩ => ⟨he, hw ▸ Below.refl _ _⟩
  rw [if_neg c3]
  obtain ⟨x, rfl⟩ : ∃ x, s1 = x + 1 := ⟨s1 - 1, by omega⟩
  rw [show x + 1 - 1 = x by omega]
  obtain ⟨m, hm, hsh⟩ := Go.Proofs.YtfhcpniibiobgaaDoor.M.ctz_spec (x + 1) (by omega) (by omega)
  have hz : bits_TrailingZeros64.f ((x + 1 : Nat) : Int) = some ((Lib.ctz 64 (x + 1) : Nat) : Int) := by
    unfold bits_TrailingZeros64.f
    rw [if_pos (by omega), if_pos (by omega), Int.toNat_natCast]
  unfold vcSt
  generalize Lib.ctz 64 (x + 1) = sh at hm hsh hz ⊢
  have hsd : 2 ^ sh ∣ x + 1 := ⟨_, hm⟩
  have hsn : ¬ 2 ^ (sh + 1) ∣ x + 1 := by
    rintro ⟨q, hq⟩
    rw [hm, Nat.pow_succ, Nat.mul_assoc] at hq
    have := Nat.eq_of_mul_eq_mul_left (Nat.two_pow_pos sh) hq
    omega
  obtain ⟨hi1, hi2⟩ := start_plus x sh s2 (by omega) hs2 hsd
  have hd := decomp_f x s2 (by omega) hs2
  have h64 := inn_le x s2 (by omega) hs2
  have hp := pc_le 64 (x / 2 ^ inn x s2)
  have hv : vlen x s2 = inn x s2 + pc 64 (x / 2 ^ inn x s2) := rfl
  obtain ⟨st, hst⟩ : ∃ st, st = if x + 1 = 2 ^ sh then 0 else 1 := ⟨_, rfl⟩
  rw [← hst]
  have hst1 : st ≤ 1 := by rw [hst]; split <;> omega
  have hF : L.length + sh = st + vlen x s2 → rootsF a0 a2 a5 (x + 1) 64 0 s2 true L l1 = _ := fun hlen => rootsF_ch a0 a2 a5 x sh (by omega) hsd hsn st hst l1 _ 64 0 s2 true L rfl (Nat.le_refl _) (Nat.zero_le _) (by omega) hs2 ⟨64, 0, Nat.le_refl _, by omega, by omega⟩ (fun h => absurd h c2) ⟨fun _ => rfl, fun _ => rfl⟩ (by rw [Nat.sub_zero, Nat.sub_zero]; exact hlen)
  rw [Nat.sub_zero, Nat.sub_zero] at hF
  obtain ⟨I, hI⟩ : ∃ I, I = inn x s2 - sh := ⟨_, rfl⟩
  have hIs : I + sh = inn x s2 := by omega
  rw [← hI] at hF
  have hmk : (x : Int) / 2 ^ min sh 64 = ((x / 2 ^ sh : Nat) : Int) := by
    rw [Nat.min_eq_left (by omega)]
    push_cast
    rfl
  generalize inn x s2 = inner at *
  generalize pc 64 (x / 2 ^ inner) = border at *
  by_cases c4 : L.length + sh ≠ st + vlen x s2
  · rw [if_pos c4]
    by_cases c5 : L.length = 0
    · exact ok_err fun W B1 d1 B2 d2 B3 d3 hb k1 e1 k2 e2 k3 e3 => vc_err4 a0 a1 a2 a3 a4 a5 (x + 1) s2 B2 L.length d2 B1 l1.length d1 B3 l3.length d3 (by omega) (by omega) c5 W
    · exact ok_err fun W B1 d1 B2 d2 B3 d3 hb k1 e1 k2 e2 k3 e3 => vc_err5 a0 a1 a2 a3 a4 a5 (x + 1) s2 x B2 d2 L B1 l1.length d1 B3 l3.length d3 inner border sh I st W k2 (by omega) (Glob.below HG hb) (by omega) (by omega) hs2 rfl (by omega) hd hz hsh hIs h64 hp hst (by omega)
  rw [if_neg c4]
  have hlen : L.length + sh = st + vlen x s2 := by omega
  have hF := hF hlen
  have hLn : L.length = st + I + border := by omega
  have tk : ∀ h ∈ (L.drop st).take I, h.length ≤ 5000 := fun h hh => hrow h (List.mem_of_mem_drop (List.mem_of_mem_take hh))
  have dp : ∀ h ∈ (L.drop st).drop I, h.length ≤ 5000 := fun h hh => hrow h (List.mem_of_mem_drop (List.mem_of_mem_drop hh))
  have tl : ((L.drop st).take I).length ≤ 300 := by rw [List.length_take, List.length_drop]; omega
  have dl : ((L.drop st).drop I).length ≤ 300 := by rw [List.length_drop, List.length_drop]; omega
  obtain ⟨sd, hsd0⟩ : ∃ sd, sd = (if x + 1 = 2 ^ sh then l1 else L.getD 0 []) := ⟨_, rfl⟩
  rw [← hsd0] at hF
  have hsdl : sd.length ≤ 100000 := by
    rw [hsd0]
    split
    · exact hl1
    · rw [List.getD_eq_getElem?_getD]
      rcases h : L[0]? with _ | y
      · simp
      · exact Nat.le_trans (hrow y (List.mem_of_getElem? h)) (by omega)
  have lR := chR_len a0 a2 a5 ((x / 2 ^ sh : Nat) : Int) _ sd 0 tk
  have lI := chI_len a0 a2 a5 ((x / 2 ^ sh : Nat) : Int) _ sd 0 tk
  have f1 := toyR a0 a1 a2 a3 a4 a5 ((x / 2 ^ sh : Nat) : Int) _ sd 0 tk (by omega)
  have f4 := toyI a0 a1 a2 a3 a4 a5 ((x / 2 ^ sh : Nat) : Int) _ sd 0 tk (by omega)
  have f2 := toyB a0 a1 a2 a3 a4 a5 _ (chR a0 a2 a5 ((x / 2 ^ sh : Nat) : Int) ((L.drop st).take I) sd 0) dp (by omega)
  have f5 := toyB a0 a1 a2 a3 a4 a5 _ (chI a0 a2 a5 ((x / 2 ^ sh : Nat) : Int) ((L.drop st).take I) sd 0) dp (by omega)
  have lB1 := chB_len a0 a2 a5 _ (chR a0 a2 a5 ((x / 2 ^ sh : Nat) : Int) ((L.drop st).take I) sd 0) dp
  have lB2 := chB_len a0 a2 a5 _ (chI a0 a2 a5 ((x / 2 ^ sh : Nat) : Int) ((L.drop st).take I) sd 0) dp
  rw [← hmk] at f1 f2 f4 f5 hF lR lI lB1 lB2
  generalize chR a0 a2 a5 ((x : Int) / 2 ^ min sh 64) ((L.drop st).take I) sd 0 = q1 at f1 f2 hF lR lB1
  generalize chI a0 a2 a5 ((x : Int) / 2 ^ min sh 64) ((L.drop st).take I) sd 0 = t1 at f4 f5 hF lI lB2
  generalize chB a0 a2 a5 ((L.drop st).drop I) q1 = q at f2 hF lB1
  generalize chB a0 a2 a5 ((L.drop st).drop I) t1 = t at f5 hF lB2
  rw [hF]
  dsimp only
  by_cases c6 : x + 1 = 2 ^ sh
  · rw [if_pos c6] at hst hsd0
    subst hst
    subst hsd0
    rw [List.drop_zero] at f1 f2 f4 f5
    by_cases c7 : sameB q sd = true
    · rw [if_pos c7]
      by_cases c8 : sameB t l3 = true
      · rw [if_pos c8]
        exact ok_nil fun W B1 d1 B2 d2 B3 d3 hb k1 e1 k2 e2 k3 e3 => vc_pow_yes a0 a1 a2 a3 a4 a5 (x + 1) s2 x B2 d2 L B1 d1 sd B3 d3 l3 inner border sh I q1 q t1 t W k2 e2 (by omega) k1 e1 k3 e3 (Glob.below HG hb) (by omega) (by omega) hs2 rfl (by omega) hd hz hsh hIs h64 hp c6 hLn f1 f2 c7 f4 f5 c8
      · rw [if_neg c8]
        exact ok_other (by omega) fun W B1 d1 B2 d2 B3 d3 hb k1 e1 k2 e2 k3 e3 => (vc_pow_no2 a0 a1 a2 a3 a4 a5 (x + 1) s2 x B2 d2 L B1 d1 sd B3 d3 l3 inner border sh I q1 q t1 t W k2 e2 (by omega) k1 e1 k3 e3 (Glob.below HG hb) (by omega) (by omega) hs2 rfl (by omega) hd hz hsh hIs h64 hp c6 hLn f1 f2 c7 f4 f5 (by simpa using c8)).mono fun _ _ ⟨A', c', h⟩ => ⟨_, _, _, A', c', h⟩
    · rw [if_neg c7]
      exact ok_other (by omega) fun W B1 d1 B2 d2 B3 d3 hb k1 e1 k2 e2 k3 e3 => (vc_pow_no1 a0 a1 a2 a3 a4 a5 (x + 1) s2 x B2 d2 L B1 d1 sd B3 d3 l3 inner border sh I q1 q W k2 e2 (by omega) k1 e1 k3 e3 (Glob.below HG hb) (by omega) (by omega) hs2 rfl (by omega) hd hz hsh hIs h64 hp c6 hLn f1 f2 (by simpa using c7)).mono fun _ _ ⟨A', c', h⟩ => ⟨_, _, _, A', c', h⟩
  · rw [if_neg c6] at hst hsd0
    subst hst
    subst hsd0
    by_cases c7 : sameB q l1 = true
    · rw [if_pos c7]
      by_cases c8 : sameB t l3 = true
      · rw [if_pos c8]
        exact ok_nil fun W B1 d1 B2 d2 B3 d3 hb k1 e1 k2 e2 k3 e3 => vc_odd_yes a0 a1 a2 a3 a4 a5 (x + 1) s2 x B2 d2 L B1 d1 l1 B3 d3 l3 inner border sh I q1 q t1 t W k2 e2 (by omega) k1 e1 k3 e3 (Glob.below HG hb) (by omega) (by omega) hs2 rfl (by omega) hd hz hsh hIs h64 hp c6 hLn f1 f2 c7 f4 f5 c8
      · rw [if_neg c8]
        exact ok_other (by omega) fun W B1 d1 B2 d2 B3 d3 hb k1 e1 k2 e2 k3 e3 => (vc_odd_no2 a0 a1 a2 a3 a4 a5 (x + 1) s2 x B2 d2 L B1 d1 l1 B3 d3 l3 inner border sh I q1 q t1 t W k2 e2 (by omega) k1 e1 k3 e3 (Glob.below HG hb) (by omega) (by omega) hs2 rfl (by omega) hd hz hsh hIs h64 hp c6 hLn f1 f2 c7 f4 f5 (by simpa using c8)).mono fun _ _ ⟨A', c', h⟩ => ⟨_, _, _, A', c', h⟩
    · rw [if_neg c7]
      exact ok_other (by omega) fun W B1 d1 B2 d2 B3 d3 hb k1 e1 k2 e2 k3 e3 => (vc_odd_no1 a0 a1 a2 a3 a4 a5 (x + 1) s2 x B2 d2 L B1 d1 l1 B3 d3 l3 inner border sh I q1 q W k2 e2 (by omega) k1 e1 k3 e3 (Glob.below HG hb) (by omega) (by omega) hs2 rfl (by omega) hd hz hsh hIs h64 hp c6 hLn f1 f2 (by simpa using c7)).mono fun _ _ ⟨A', c', h⟩ => ⟨_, _, _, A', c', h⟩

theorem impl_vc_calls (a0 a1 a2 a3 a4 a5 : Int) (s1 s2 : Nat) (hs1 : s1 < 18446744073709551616) (hs2 : s2 < 18446744073709551616) (A1 : Option Addr) (c1 : Nat) (l1 : List Int) (A2 : Option Addr) (c2 : Nat) (L : List (List Int)) (A3 : Option Addr) (c3 : Nat) (l3 : List Int) (w : World) (HG : Glob w)
    (h1 : CB w A1 l1) (h2 : CL w A2 L) (hc2 : L.length ≤ c2) (h3 : CB w A3 l3) (hl1 : l1.length ≤ 100000) (hL : L.length ≤ 300) (hrow : ∀ h ∈ L, h.length ≤ 5000) (hl3 : l3.length ≤ 2147483647) :
    Calls Tryd.prog 23 #[.agg #[.int .i64 a0, .int .i64 a1, .int .i64 a2, .int .u64 a3, .int .u64 a4, .int .u64 a5], .int .u64 (s1 : Int), .int .u64 (s2 : Int), .slice A2 L.length c2, .slice A1 l1.length c1, .slice A3 l3.length c3] w fun e w' => ∃ v2, e = .returned (.tuple #[.int .i64 (vcF a0 a2 a5 s1 s2 L l1 l3).1, v2]) ∧ Kd.R (Kd.int .u8) 5 w' w.heap.size (fun _ => True) v2 (vcF a0 a2 a5 s1 s2 L l1 l3).2 ∧ Below w.heap.size w w' :=
  implVC_of a0 a1 a2 a3 a4 a5 (s1 : Int) (s2 : Int) A1 c1 l1 A2 c2 L A3 c3 l3 w h1 h2 h3 (by omega) (by omega) hc2 (L.length + 1) (texts_ok L (by omega) (fun h hh => by have := hrow h hh; omega)) _ _ (vc_ok a0 a1 a2 a3 a4 a5 s1 s2 hs1 hs2 l1 L l3 w HG hl1 hL hrow)
end Go.Proofs.YtfhcpniibiobgaaDoor.Qf
