/- The path of a node at level k of a log that has nothing beside whole trees of this level is the path of the leaf with its index, k levels higher. Conditions: those of the statement alone. -/
import Derived.Test.YtmcelgfekffinaaDoorQtx6
import Derived.Test.YtmcelgfekffinaaDoorQtPP
namespace Go.Proofs.YtmcelgfekffinaaDoor.Pure
open Go.RowKit Go.Proofs.YtmcelgfekffinaaDoor.Qt Go.Proofs.YtmcelgfekffinaaDoorW.PrintWords Go.Proofs.YtmcelgfekffinaaDoorW.PrintLast
open Go.Proofs.YtmcelgfekffinaaDoor.M (IsN)

theorem implProof_ev {i l s : Nat} (hl : l ≤ 63) (hs : s < 18446744073709551616) (hi : i < s / 2 ^ l) : ∃ c Rt Lf, Path i l s c Rt Lf ∧ Lib.bitLen (i ^^^ (s / 2 ^ l)) = c + 1 ∧
    Ev (fun k => impl_ProofNodes.f k (i : Int) (l : Int) (s : Int)) ((ids c l i Rt Lf).map mk27, ((l + c : Nat) : Int), ((i / 2 ^ c + 1 : Nat) : Int), (if Rt.length = 0 then 0 else ((1 + c : Nat) : Int)), (if Rt.length = 0 then 0 else ((1 + c + Rt.length : Nat) : Int))) := by
  obtain ⟨c, Rt, Lf, hp, hc, hev⟩ := nodes_path hl hs hi
  refine ⟨c, Rt, Lf, hp, hc, ?_⟩
  have hlen : (ids c l i Rt Lf).length < 1000 := by
    rw [ids_length]
    have := hp.rlen
    have := hp.llen
    have := hp.lvl
    omega
  have hdoor : Ev (fun k => proof_DoorNodes.f k (i : Int) (l : Int) (s : Int)) (answer c l i (i / 2 ^ c) Rt Lf) := by
    refine Ev.congr (fun k => ?_) (Ev.bind hev (f := fun _ t => some t) (Ev.now _))
    unfold proof_DoorNodes.f
    rfl
  have hfp := fromProof_ev (ids c l i Rt Lf) hlen (if Rt.length = 0 then 0 else ((1 + c : Nat) : Int)) (if Rt.length = 0 then 0 else ((1 + c + Rt.length : Nat) : Int)) ((l + c : Nat) : Int) ((i / 2 ^ c + 1 : Nat) : Int)
  have hj : Ev (fun k => impl_ProofNodes.j0 k (i : Int) (l : Int) (s : Int) false) ((ids c l i Rt Lf).map mk27, ((l + c : Nat) : Int), ((i / 2 ^ c + 1 : Nat) : Int), (if Rt.length = 0 then 0 else ((1 + c : Nat) : Int)), (if Rt.length = 0 then 0 else ((1 + c + Rt.length : Nat) : Int))) := by
    refine Ev.step (fun k => ?_) (Ev.bind hdoor (f := fun k t => (impl_fromProof.f k t.1 t.2.1 t.2.2.1 t.2.2.2.1 t.2.2.2.2).bind fun u => some u) (Ev.bind hfp (f := fun _ u => some u) (Ev.now _)))
    simp only [impl_ProofNodes.j0]
    rw [if_neg (by simp)]
  refine Ev.congr (fun k => ?_) hj
  unfold impl_ProofNodes.f
  have hsh : shr .u64 (s : Int) (l : Int) = ((s / 2 ^ l : Nat) : Int) := shr_u64 s l rfl rfl hs
  rw [if_neg (by omega), if_pos (by omega), hsh, decide_eq_false (by omega)]

theorem raised_of (n : Nat) (hn : n ≤ 63) (post : List (Nat × Nat)) : ∀ (pre : List (Nat × Nat)) (out : List S27), (∀ x, x ∈ post → x.1 ≤ 64) → out.length + post.length < 1000 → (pre ++ post).length < 1000 →
    Ev (fun k => laws_raised.l0 k (n : Int) out ((pre ++ post).map mk27) (((pre ++ post).length : Nat) : Int) (pre.length : Int)) (out ++ (M.up n post).map mk27) := by
  induction post with
  | nil =>
    intro pre out _ h h'
    refine Ev.step (f := fun _ => some out) (fun k => ?_) (by simpa [M.up] using Ev.now out)
    simp only [laws_raised.l0]
    rw [if_neg (by rw [List.append_nil]; omega)]
  | cons x post ih =>
    intro pre out hx h h'
    have h1 := ih (pre ++ [x]) (out ++ [mk27 (x.1 + n, x.2)]) (fun y hy => hx y (List.mem_cons_of_mem _ hy)) (by simp only [List.length_append, List.length_cons, List.length_nil] at h ⊢; omega) (by simpa using h')
    have e0 : pre ++ [x] ++ post = pre ++ x :: post := by simp
    rw [e0] at h1
    have hl : (pre ++ x :: post).length = pre.length + 1 + post.length := by simp; omega
    have er : out ++ (M.up n (x :: post)).map mk27 = out ++ [mk27 (x.1 + n, x.2)] ++ (M.up n post).map mk27 := by simp [M.up]
    rw [er]
    refine Ev.step (fun k => ?_) h1
    simp only [laws_raised.l0]
    have hrd := rd27 pre x post
    have hx1 := hx x List.mem_cons_self
    rw [hrd, if_pos (by omega), if_pos (by omega), if_pos (by rw [List.length_map]; omega), if_pos (by rw [List.length_cons] at h; omega)]
    have e1 : wrap64 ((pre.length : Int) + 1) = ((pre ++ [x]).length : Int) := by
      rw [hl] at h'
      rw [w64 (by omega) (by omega), List.length_append, List.length_singleton]; omega
    have e2 : IntKind.u64.wrap ((mk27 x).f0 + IntKind.u64.wrap (n : Int)) = ((x.1 + n : Nat) : Int) := by
      show IntKind.u64.wrap ((x.1 : Int) + IntKind.u64.wrap (n : Int)) = _
      rw [wu64 (n := (n : Int)) (by omega) (by omega), wu64 (by omega) (by omega)]; omega
    rw [e1, e2]
    rfl

theorem raised_ev (n : Nat) (hn : n ≤ 63) (l : List (Nat × Nat)) (hx : ∀ x, x ∈ l → x.1 ≤ 64) (h : l.length < 1000) : Ev (fun k => laws_raised.f k (l.map mk27) (n : Int)) ((M.up n l).map mk27) := by
  have h1 := raised_of n hn l [] [] hx (by simpa using h) (by simpa using h)
  simp only [List.nil_append, List.length_nil] at h1
  refine Ev.congr (fun k => ?_) h1
  unfold laws_raised.f
  rw [List.length_map]
  rfl

/-- Levels of a path's nodes. -/
theorem sibs_level : ∀ (c l i : Nat) (x : Nat × Nat), x ∈ sibs c l i → x.1 < l + c
  | 0, _, _, _, h => by cases h
  | c + 1, l, i, x, h => by
    rcases List.mem_cons.1 h with rfl | h
    · show l < l + (c + 1)
      omega
    · have := sibs_level c (l + 1) (i / 2) x h
      omega
theorem mx_level {b e l i : Nat} (h : M.Mx b e l i) (he : e < 18446744073709551616) : l ≤ 63 := by
  have h1 := h.1.2
  have h2 : 2 ^ l ≤ 2 ^ l * (i + 1) := Nat.le_mul_of_pos_right _ (by omega)
  have h3 : 2 ^ l < 2 ^ 64 := Nat.lt_of_le_of_lt (Nat.le_trans h2 h1) he
  have := (Nat.pow_lt_pow_iff_right (a := 2) (by omega)).1 h3
  omega
theorem ids_level {i l s c : Nat} {Rt Lf : List (Nat × Nat)} (hp : Path i l s c Rt Lf) (hs : s < 18446744073709551616) (x : Nat × Nat) (hx : x ∈ ids c l i Rt Lf) : x.1 ≤ 63 := by
  have h1 := hp.lvl
  unfold ids at hx
  rcases List.mem_cons.1 hx with rfl | hx
  · show l ≤ 63
    omega
  rcases List.mem_append.1 hx with hx | hx
  · rcases List.mem_append.1 hx with hx | hx
    · have := sibs_level _ _ _ _ hx
      omega
    · exact mx_level (hp.right.mx x (List.mem_reverse.1 hx)) hs
  · refine mx_level (hp.left.mx x (List.mem_reverse.1 hx)) (Nat.lt_of_le_of_lt ?_ hs)
    refine Nat.le_trans (Nat.mul_le_mul_right _ (Nat.le_succ (i / 2 ^ c))) ?_
    have h2 := Nat.div_mul_le_self s (2 ^ (l + c))
    rw [hp.top] at h2
    exact h2

theorem scal {s n : Nat} (_hs : s < 18446744073709551616) (hn : n ≤ 63) (h : shr .u64 (shl .u64 (s : Int) (n : Int)) (n : Int) = (s : Int)) : s * 2 ^ n < 18446744073709551616 := by
  have e1 : shl .u64 (s : Int) (n : Int) = ((s * 2 ^ n % 18446744073709551616 : Nat) : Int) := by
    unfold shl
    rw [Int.toNat_natCast, show min n IntKind.u64.bits = n from Nat.min_eq_left (by show n ≤ 64; omega)]
    show ((s : Int) * 2 ^ n) % 18446744073709551616 = _
    rw [Int.natCast_emod, Int.natCast_mul, Int.natCast_pow]
    rfl
  rw [e1, shr_u64 _ n rfl rfl (Nat.mod_lt _ (by omega))] at h
  have h2 : s * 2 ^ n % 18446744073709551616 / 2 ^ n = s := by exact_mod_cast h
  have h3 : s * 2 ^ n ≤ s * 2 ^ n % 18446744073709551616 := by
    have := Nat.div_mul_le_self (s * 2 ^ n % 18446744073709551616) (2 ^ n)
    rw [h2] at this
    exact this
  exact Nat.lt_of_le_of_lt h3 (Nat.mod_lt _ (by omega))

theorem j0_true (a b c : Int) : ∃ k, laws_FnProofNodesScaled.j0 k a b c true = some true := ⟨1, by simp [laws_FnProofNodesScaled.j0]⟩

theorem main {i s n : Nat} (hs : s < 18446744073709551616) (hi : i < s) (hn : n ≤ 63) (hsn : s * 2 ^ n < 18446744073709551616) : Ev (fun k => laws_FnProofNodesScaled.j0 k (i : Int) (s : Int) (n : Int) false) true := by
  have hdiv : s * 2 ^ n / 2 ^ n = s := Nat.mul_div_cancel _ (Nat.two_pow_pos n)
  obtain ⟨c, Rt, Lf, hp, hc, hev⟩ := implProof_ev (i := i) (l := 0) (s := s) (by omega) hs (by simpa using hi)
  obtain ⟨c', Rt', Lf', hp', hc', hev'⟩ := implProof_ev (i := i) (l := n) (s := s * 2 ^ n) hn hsn (by rw [hdiv]; exact hi)
  rw [Nat.pow_zero, Nat.div_one] at hc
  rw [hdiv, hc] at hc'
  have hcc : c' = c := by omega
  subst hcc
  have hR := M.isN_up n hp.right
  have hL := M.isN_up n hp.left
  rw [Nat.mul_assoc, ← Nat.pow_add, show 0 + c' + n = n + c' by omega] at hR hL
  rw [Nat.zero_mul] at hL
  obtain rfl := M.isN_uniq hp'.right hR
  obtain rfl := M.isN_uniq hp'.left hL
  have hup := ids_up n c' 0 i Rt Lf
  rw [Nat.zero_add] at hup
  rw [hup] at hev'
  have hlen : (ids c' 0 i Rt Lf).length < 1000 := by
    rw [ids_length]
    have := hp.rlen
    have := hp.llen
    have := hp.lvl
    omega
  have hraise := raised_ev n hn (ids c' 0 i Rt Lf) (fun x hx => by have := ids_level hp hs x hx; omega) hlen
  have hRl : (M.up n Rt).length = Rt.length := by simp [M.up]
  rw [hRl] at hev'
  have hsame := same_refl (M.up n (ids c' 0 i Rt Lf)) (by simpa [M.up] using hlen) ((n + c' : Nat) : Int) ((i / 2 ^ c' + 1 : Nat) : Int) (if Rt.length = 0 then 0 else ((1 + c' : Nat) : Int)) (if Rt.length = 0 then 0 else ((1 + c' + Rt.length : Nat) : Int))
  have h64 := hp'.lvl
  have e1 : IntKind.u64.wrap (n : Int) = (n : Int) := wu64 (by omega) (by omega)
  have e2 : shl .u64 (s : Int) (n : Int) = ((s * 2 ^ n : Nat) : Int) := shl_u64 s n rfl rfl hsn (by omega)
  have e3 : IntKind.u64.wrap (((0 + c' : Nat) : Int) + (n : Int)) = ((n + c' : Nat) : Int) := by
    have h65 : ((0 + c' : Nat) : Int) + (n : Int) = ((n + c' : Nat) : Int) := by omega
    rw [h65]
    exact wu64 (Int.natCast_nonneg _) (by omega)
  have hpos : decide (((M.up n (ids c' 0 i Rt Lf)).map mk27).length > 0) = true := by simp [M.up, ids]
  refine Ev.step (f := fun k => (impl_ProofNodes.f k (i : Int) 0 (s : Int)).bind fun bt234 => ((impl_ProofNodes.f k (i : Int) (n : Int) ((s * 2 ^ n : Nat) : Int)).bind fun bt241 => ((laws_raised.f k bt234.1 (n : Int)).bind fun t250 => ((spec_SameProof.f k t250 (IntKind.u64.wrap (bt234.2.1 + (n : Int))) bt234.2.2.1 bt234.2.2.2.1 bt234.2.2.2.2 bt241.1 bt241.2.1 bt241.2.2.1 bt241.2.2.2.1 bt241.2.2.2.2).bind fun t253 => (if t253 = true then (some (decide ((t250.length : Int) > 0))) else (some false)))))) (fun k => ?_) ?_
  · have hn0 : (0 : Int) ≤ (n : Int) := by omega
    simp only [laws_FnProofNodesScaled.j0, if_pos hn0, e1, e2]
    simp
  · refine Ev.bind hev (Ev.bind hev' (Ev.bind hraise (Ev.bind (a := true) ?_ ?_)))
    · dsimp only
      rw [e3]
      exact hsame
    · rw [if_pos rfl]
      have hpos' : decide ((((M.up n (ids c' 0 i Rt Lf)).map mk27).length : Int) > 0) = true := by
        rw [decide_eq_true_iff] at hpos ⊢
        omega
      rw [hpos']
      exact Ev.now _

theorem FnProofNodesScaled : laws_FnProofNodesScaled.Pure := by
  intro a0 a1 a2 w0 w1 w2
  simp only [Lit.wf, Bool.and_eq_true, decide_eq_true_eq] at w0 w1 w2
  obtain ⟨i, rfl⟩ := Int.eq_ofNat_of_zero_le (show 0 ≤ a0 from w0.1)
  obtain ⟨s, rfl⟩ := Int.eq_ofNat_of_zero_le (show 0 ≤ a1 from w1.1)
  have hs : s < 18446744073709551616 := by
    have h1 : (s : Int) ≤ 18446744073709551615 := w1.2
    omega
  unfold laws_FnProofNodesScaled.f
  by_cases h0 : (i : Int) ≥ (s : Int)
  · obtain ⟨k, hk⟩ := j0_true (i : Int) (s : Int) a2
    exact ⟨k, by rw [if_pos h0]; exact hk⟩
  have hfalse : ∀ b : Bool, b = false → laws_scalable.f (s : Int) a2 = some b → ∃ k, (laws_scalable.f (s : Int) a2).bind (fun t233 => laws_FnProofNodesScaled.j0 k (i : Int) (s : Int) a2 (!t233)) = some true := by
    rintro b rfl hb
    obtain ⟨k, hk⟩ := j0_true (i : Int) (s : Int) a2
    exact ⟨k, by rw [hb]; exact hk⟩
  by_cases h1 : a2 ≥ 0
  · by_cases h2 : a2 ≤ 63
    · obtain ⟨n, rfl⟩ := Int.eq_ofNat_of_zero_le h1
      have hsc : laws_scalable.f (s : Int) (n : Int) = some (shr .u64 (shl .u64 (s : Int) (n : Int)) (n : Int) == (s : Int)) := by
        unfold laws_scalable.f
        rw [if_pos h1, if_pos h2, if_pos h1]
      by_cases h3 : shr .u64 (shl .u64 (s : Int) (n : Int)) (n : Int) = (s : Int)
      · obtain ⟨k, hk⟩ := (main hs (show i < s by omega) (show n ≤ 63 by omega) (scal hs (by omega) h3)).rounds
        refine ⟨k, ?_⟩
        rw [if_neg h0, hsc, h3]
        simpa using hk
      · obtain ⟨k, hk⟩ := hfalse _ (by simpa using h3) hsc
        exact ⟨k, by rw [if_neg h0]; exact hk⟩
    · obtain ⟨k, hk⟩ := hfalse false rfl (by unfold laws_scalable.f; rw [if_pos h1, if_neg h2])
      exact ⟨k, by rw [if_neg h0]; exact hk⟩
  · obtain ⟨k, hk⟩ := hfalse false rfl (by unfold laws_scalable.f; rw [if_neg h1])
    exact ⟨k, by rw [if_neg h0]; exact hk⟩
end Go.Proofs.YtmcelgfekffinaaDoor.Pure
