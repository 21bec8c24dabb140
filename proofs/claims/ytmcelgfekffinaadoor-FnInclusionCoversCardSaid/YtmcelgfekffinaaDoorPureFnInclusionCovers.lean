/- The nodes of which an audit path is made have below them each leaf of the log but its own, once; those of the ephemeral node follow one another. Conditions: those of the statement alone. -/
import Derived.Test.YtmcelgfekffinaaDoorIC
import Derived.Test.YtmcelgfekffinaaDoorQtPP
import Derived.Test.YtmcelgfekffinaaDoorCv
namespace Go.Proofs.YtmcelgfekffinaaDoor.Pure
open Go.RowKit Go.Proofs.YtmcelgfekffinaaDoor.Qt Go.Proofs.YtmcelgfekffinaaDoorW.PrintWords Go.Proofs.YtmcelgfekffinaaDoorW.PrintLast
open Go.Proofs.YtmcelgfekffinaaDoor.M (IsN Chain sibs sibs_length Dis sz Cover)

/-- From the end to the left. -/
def RC : Nat → List (Nat × Nat) → Prop
  | _, [] => True
  | e, x :: xs => M.hi x = e ∧ RC (M.lo x) xs
theorem rc_snoc : ∀ {l : List (Nat × Nat)} {b e : Nat} {x : Nat × Nat}, Chain b e (l ++ [x]) → Chain b (M.lo x) l ∧ M.hi x = e
  | [], b, e, x, h => by
    have h1 : b = M.lo x := h.1
    have h2 : M.hi x = e := h.2
    exact ⟨h1, h2⟩
  | y :: l, b, e, x, h => by
    obtain ⟨h1, h2⟩ := rc_snoc (l := l) h.2
    exact ⟨⟨h.1, h1⟩, h2⟩
theorem rc_of : ∀ (r : List (Nat × Nat)) {b e : Nat}, Chain b e r.reverse → RC e r
  | [], _, _, _ => trivial
  | x :: xs, b, e, h => by
    rw [List.reverse_cons] at h
    obtain ⟨h1, h2⟩ := rc_snoc h
    exact ⟨h2, rc_of xs h1⟩
def eof : Nat → List (Nat × Nat) → Nat → Nat
  | e, _, 0 => e
  | e, [], _ + 1 => e
  | _, x :: xs, m + 1 => eof (M.lo x) xs m
theorem rc_at : ∀ {r : List (Nat × Nat)} {e m : Nat}, RC e r → m < r.length → M.hi (r.getD m (0, 0)) = eof e r m ∧ M.lo (r.getD m (0, 0)) = eof e r (m + 1)
  | [], _, _, _, hm => by simp at hm
  | x :: xs, e, 0, h, _ => by
    refine ⟨h.1, ?_⟩
    cases xs <;> rfl
  | x :: xs, e, m + 1, h, hm => by
    have := rc_at (m := m) h.2 (by simpa using hm)
    exact this

theorem leaves_of {x : Nat × Nat} {e : Nat} (hl : x.1 ≤ 63) (h : M.hi x ≤ e) (he : e < 18446744073709551616) :
    spec_Leaves.f (x.1 : Int) (x.2 : Int) = some ((M.lo x : Int), (M.hi x : Int)) := by
  have h1 : x.2 * 2 ^ x.1 = M.lo x := Nat.mul_comm _ _
  have h2 : (x.2 + 1) * 2 ^ x.1 = M.hi x := Nat.mul_comm _ _
  have h3 := M.lo_hi x
  have h4 := Nat.two_pow_pos x.1
  have h5 : x.2 + 1 ≤ M.hi x := Nat.le_mul_of_pos_left _ h4
  unfold spec_Leaves.f
  have e1 : IntKind.u64.wrap ((x.2 : Int) + 1) = ((x.2 + 1 : Nat) : Int) := by rw [wu64 (by omega) (by omega)]; omega
  rw [if_pos (by omega), e1, shl_u64 x.2 x.1 rfl rfl (by rw [h1]; omega) (by omega), shl_u64 (x.2 + 1) x.1 rfl rfl (by rw [h2]; omega) (by omega), h1, h2]

theorem getD_lt {T : List (Nat × Nat)} {j : Nat} (hj : j < T.length) : T.getD j (0, 0) = T[j] := by
  rw [List.getD_eq_getElem?_getD, List.getElem?_eq_getElem hj]
  rfl
theorem rd_at (T : List (Nat × Nat)) (j : Nat) (hj : j < T.length) : rd_T27 (T.map mk27) (j : Int) = mk27 (T.getD j (0, 0)) := by
  unfold rd_T27
  rw [Int.toNat_natCast, List.getD_eq_getElem?_getD, List.getD_eq_getElem?_getD, List.getElem?_map, List.getElem?_eq_getElem hj]
  rfl

theorem take_sz (T : List (Nat × Nat)) (j : Nat) (hj : j < T.length) : sz (T.take (j + 1)) = sz (T.take j) + 2 ^ (T.getD j (0, 0)).1 := by
  rw [List.take_succ_eq_append_getElem hj, M.sz_append, M.sz_cons, M.sz_nil, List.getD_eq_getElem?_getD, List.getElem?_eq_getElem hj]
  rfl
theorem take_le (T : List (Nat × Nat)) (j : Nat) : sz (T.take j) ≤ sz T := by
  have h := M.sz_append (T.take j) (T.drop j)
  rw [List.take_append_drop] at h
  omega

theorem mx63 {e : Nat} {x : Nat × Nat} (h : M.hi x ≤ e) (he : e < 18446744073709551616) : x.1 ≤ 63 := by
  have h2 : 2 ^ x.1 ≤ M.hi x := Nat.le_mul_of_pos_right _ (by omega)
  have h3 : 2 ^ x.1 < 2 ^ 64 := Nat.lt_of_le_of_lt (Nat.le_trans h2 h) he
  have := (Nat.pow_lt_pow_iff_right (a := 2) (by omega)).1 h3
  omega

theorem FnInclusionCovers : laws_FnInclusionCovers.Pure := by
  intro i s hi hs
  obtain ⟨c, Rt, Lf, hp, _, hev⟩ := nodes_path (i := i) (l := 0) (s := s) (by omega) hs (by simpa using hi)
  have hcov := M.cover_of hp.right hp.left
  have hrl := hp.rlen
  have hll := hp.llen
  have hlv := hp.lvl
  have htop := hp.top
  have hTl : (sibs c 0 i ++ Rt.reverse ++ Lf.reverse).length = c + Rt.length + Lf.length := by simp [sibs_length]; omega
  obtain ⟨T, hT⟩ : ∃ T, T = sibs c 0 i ++ Rt.reverse ++ Lf.reverse := ⟨_, rfl⟩
  rw [← hT] at hcov hTl
  -- what the program makes
  have hfp := fromProof_ev T (by omega) (if Rt.length = 0 then 0 else (c : Int)) (if Rt.length = 0 then 0 else ((c + Rt.length : Nat) : Int)) ((0 + c : Nat) : Int) ((i / 2 ^ c + 1 : Nat) : Int)
  have himpl : Ev (fun k => impl_Inclusion.f k (i : Int) (s : Int)) (T.map mk27, ((0 + c : Nat) : Int), ((i / 2 ^ c + 1 : Nat) : Int), (if Rt.length = 0 then 0 else (c : Int)), (if Rt.length = 0 then 0 else ((c + Rt.length : Nat) : Int)), true) := by
    have h1 : Ev (fun k => proof_Inclusion.f k (i : Int) (s : Int)) (T.map mk46, (if Rt.length = 0 then 0 else (c : Int)), (if Rt.length = 0 then 0 else ((c + Rt.length : Nat) : Int)), ((0 + c : Nat) : Int), ((i / 2 ^ c + 1 : Nat) : Int), none) := by
      refine Ev.congr (fun k => ?_) (Ev.bind hev (f := fun _ (bt263 : List S46 × Int × Int × Int × Int) => (proof_Nodes_skipFirst.f bt263.1 bt263.2.1 bt263.2.2.1 bt263.2.2.2.1 bt263.2.2.2.2).bind fun bt270 => (some (bt270.1, bt270.2.1, bt270.2.2.1, bt270.2.2.2.1, bt270.2.2.2.2, none))) (by
        unfold answer
        dsimp only
        rw [skip_of c 0 i Rt Lf _ _ (by omega) hrl, ← hT]
        exact Ev.now _))
      unfold proof_Inclusion.f
      rw [if_neg (by omega)]
      rfl
    refine Ev.congr (fun k => ?_) (Ev.bind h1 (f := fun k (bt278 : List S46 × Int × Int × Int × Int × Option Int) => (if bt278.2.2.2.2.2.isNone = true then ((impl_fromProof.f k bt278.1 bt278.2.1 bt278.2.2.1 bt278.2.2.2.1 bt278.2.2.2.2.1).bind fun bt288 => (some (bt288.1, bt288.2.1, bt288.2.2.1, bt288.2.2.2.1, bt288.2.2.2.2, true))) else (some (([] : List (S27)), 0, 0, 0, 0, false)))) (Ev.congr (fun k => if_pos rfl) (Ev.bind hfp (f := fun _ (t : List S27 × Int × Int × Int × Int) => some (t.1, t.2.1, t.2.2.1, t.2.2.2.1, t.2.2.2.2, true)) (Ev.now _))))
    unfold impl_Inclusion.f impl_Inclusion0.f
    rw [if_neg (by omega)]
  obtain ⟨k, hk⟩ := himpl.rounds
  have hbb : (if Rt.length = 0 then (0 : Int) else (c : Int)) = ((if Rt.length = 0 then 0 else c : Nat) : Int) := by split <;> rfl
  have hee : (if Rt.length = 0 then (0 : Int) else ((c + Rt.length : Nat) : Int)) = ((if Rt.length = 0 then 0 else c + Rt.length : Nat) : Int) := by split <;> rfl
  rw [hbb, hee] at hk
  have hml : (T.map mk27).length = T.length := List.length_map ..
  have hmem : ∀ j, j < T.length → T.getD j (0, 0) ∈ T := by
    intro j hj
    rw [List.getD_eq_getElem?_getD, List.getElem?_eq_getElem hj]
    exact List.getElem_mem hj
  have hrc := rc_of Rt.reverse (by rw [List.reverse_reverse]; exact hp.right.chain)
  have hP := Nat.two_pow_pos c
  refine ⟨k, T.map mk27, 0 + c, i / 2 ^ c + 1, (if Rt.length = 0 then 0 else c), (if Rt.length = 0 then 0 else c + Rt.length), (fun j => (T.getD j (0, 0)).1), (fun j => M.lo (T.getD j (0, 0))), (fun j => M.hi (T.getD j (0, 0))), (fun j => 1 + sz (T.take j)), eof s Rt.reverse, hk, ?_⟩
  refine ⟨by omega, by split <;> omega, by split <;> omega, ?_, ?_, ?_, ?_, rfl, ?_, ?_, ?_, hs, ?_, ?_, by omega⟩
  · intro j hj
    rw [hml] at hj
    rw [rd_at T j hj]
    exact ⟨rfl, mx63 (hcov.mem _ (hmem j hj)).1 hs⟩
  · intro j hj
    rw [hml] at hj
    rw [rd_at T j hj]
    exact leaves_of (mx63 (hcov.mem _ (hmem j hj)).1 hs) (hcov.mem _ (hmem j hj)).1 hs
  · intro j hj
    rw [hml] at hj
    have h1 := hcov.mem _ (hmem j hj)
    have h2 := M.lo_hi (T.getD j (0, 0))
    have h3 := Nat.two_pow_pos (T.getD j (0, 0)).1
    exact ⟨by show M.lo _ < M.hi _; omega, h1.1, h1.2⟩
  · intro j m hj hm
    rw [hml] at hj
    have h1 := List.pairwise_iff_getElem.1 hcov.dis m j (by omega) hj hm
    show M.hi (T.getD m (0, 0)) ≤ M.lo (T.getD j (0, 0)) ∨ M.hi (T.getD j (0, 0)) ≤ M.lo (T.getD m (0, 0))
    rw [getD_lt hj, getD_lt (show m < T.length by omega)]
    exact h1
  · intro j hj
    rw [hml] at hj
    have h1 := take_sz T j hj
    have h2 := M.lo_hi (T.getD j (0, 0))
    have h3 := Nat.two_pow_pos (T.getD j (0, 0)).1
    show 1 + sz (T.take (j + 1)) = 1 + sz (T.take j) + (M.hi (T.getD j (0, 0)) - M.lo (T.getD j (0, 0)))
    omega
  · show 1 + sz (T.take (T.map mk27).length) = s
    rw [hml, List.take_length]
    exact hcov.sum
  · intro j _
    have h1 := take_le T j
    have h2 := hcov.sum
    show 1 + sz (T.take j) ≤ s
    omega
  · cases Rt.reverse <;> rfl
  · intro m hm
    by_cases hz : Rt.length = 0
    · rw [if_pos hz, if_pos hz] at hm
      omega
    · rw [if_neg hz, if_neg hz] at hm
      rw [if_neg hz]
      have hm2 : m < Rt.reverse.length := by rw [List.length_reverse]; omega
      have hat : T.getD (c + m) (0, 0) = Rt.reverse.getD m (0, 0) := by
        rw [hT, List.getD_eq_getElem?_getD, List.getD_eq_getElem?_getD, List.append_assoc, List.getElem?_append_right (by rw [sibs_length]; omega), sibs_length, List.getElem?_append_left (by omega), show c + m - c = m by omega]
      obtain ⟨h1, h2⟩ := rc_at hrc hm2
      have hx : Rt.reverse.getD m (0, 0) ∈ Rt := by
        rw [List.getD_eq_getElem?_getD, List.getElem?_eq_getElem hm2]
        exact List.mem_reverse.1 (List.getElem_mem hm2)
      have h3 := (M.chain_facts hp.right.chain).2.2 _ hx
      have h4 := M.lo_hi (Rt.reverse.getD m (0, 0))
      have h5 : s < (i / 2 ^ c + 1) * 2 ^ (0 + c) + 2 ^ (0 + c) := by
        have h6 := Nat.lt_div_mul_add (a := s) (b := 2 ^ (0 + c)) (Nat.two_pow_pos _)
        rw [htop] at h6
        exact h6
      have h0c : 0 + c = c := Nat.zero_add c
      rw [h0c] at h3 h5
      show M.hi (T.getD (c + m) (0, 0)) = _ ∧ M.lo (T.getD (c + m) (0, 0)) = _ ∧ (T.getD (c + m) (0, 0)).1 ≤ 0 + c ∧ eof s Rt.reverse (m + 1) / 2 ^ (0 + c) = i / 2 ^ c + 1
      rw [hat, ← h2, h0c]
      generalize Rt.reverse.getD m (0, 0) = x at *
      generalize i / 2 ^ c + 1 = q at *
      have h7 : 2 ^ x.1 < 2 ^ c := by omega
      have h8 := (Nat.pow_lt_pow_iff_right (a := 2) (by omega)).1 h7
      refine ⟨h1, rfl, by omega, ?_⟩
      have h9 : 2 ^ x.1 > 0 := Nat.two_pow_pos _
      exact M.div_of (by rw [Nat.mul_comm]; exact h3.1) (by rw [Nat.mul_add, Nat.mul_one, Nat.mul_comm (2 ^ c) q]; omega)
end Go.Proofs.YtmcelgfekffinaaDoor.Pure
