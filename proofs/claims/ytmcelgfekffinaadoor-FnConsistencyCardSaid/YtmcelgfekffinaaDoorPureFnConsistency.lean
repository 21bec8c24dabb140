/- The proof between two logs is made of the nodes that RFC 6962 says. Conditions: those of the statement alone. -/
import Derived.Test.YtmcelgfekffinaaDoorQcx11
import Derived.Test.YtmcelgfekffinaaDoorQcCS
namespace Go.Proofs.YtmcelgfekffinaaDoor.Pure
open Go.RowKit Go.Proofs.YtmcelgfekffinaaDoor.Qc Go.Proofs.YtmcelgfekffinaaDoorW.PrintWords Go.Proofs.YtmcelgfekffinaaDoorW.PrintLast
open Go.Proofs.YtmcelgfekffinaaDoor.M (IsN tp partsN PSt PStep PSteps sibs sibs_length)

abbrev A27 := List S27 × Int × Int × Int × Int
abbrev A46 := List S46 × Int × Int × Int × Int

theorem zero_proof (k : Nat) (x s : Int) : proof_Consistency.j0 (k + 1) x s true = some (([] : List S46), 0, 0, 0, 0, none) := by simp [proof_Consistency.j0]
theorem zero_spec (k : Nat) (x s : Int) : spec_ConsistencyProof.j0 (k + 1) x s true = some (([] : List S27), 0, 0, 0, 0) := by simp [spec_ConsistencyProof.j0]

/-- From the package's answer to the thin package's. -/
theorem thin_ev {x s : Int} (hxs : x ≤ s) {l : List (Nat × Nat)} (hl : l.length < 1000) {b e v u : Int} (h : Ev (fun k => proof_Consistency.f k x s) (l.map mk46, b, e, v, u, none)) :
    Ev (fun k => impl_Consistency.f k x s) (l.map mk27, v, u, b, e, true) := by
  have h2 := fromProof_ev l hl b e v u
  refine Ev.congr (fun k => ?_) (Ev.bind h (f := fun k (t : List S46 × Int × Int × Int × Int × Option Int) => (if t.2.2.2.2.2.isNone = true then ((impl_fromProof.f k t.1 t.2.1 t.2.2.1 t.2.2.2.1 t.2.2.2.2.1).bind fun bt359 => (some (bt359.1, bt359.2.1, bt359.2.2.1, bt359.2.2.2.1, bt359.2.2.2.2, true))) else (some (([] : List (S27)), 0, 0, 0, 0, false)))) (Ev.congr (fun k => if_pos rfl) (Ev.bind h2 (f := fun _ (t : List S27 × Int × Int × Int × Int) => some (t.1, t.2.1, t.2.2.1, t.2.2.2.1, t.2.2.2.2, true)) (Ev.now _))))
  unfold impl_Consistency.f impl_Consistency0.f
  rw [if_neg (by omega)]

/-- The nodes behind the first one. -/
def tail (c l i : Nat) (Rt Lf : List (Nat × Nat)) : List (Nat × Nat) := sibs c l i ++ Rt.reverse ++ Lf.reverse
/-- The whole answer, by what stands ahead of the tail. -/
def whole (first : List (Nat × Nat)) (c l i : Nat) (Rt Lf : List (Nat × Nat)) : List (Nat × Nat) × Int × Int :=
  (first ++ tail c l i Rt Lf, (if Rt.length = 0 then 0 else ((first.length + c : Nat) : Int)), (if Rt.length = 0 then 0 else ((first.length + c + Rt.length : Nat) : Int)))

def firstOf (a l : Nat) : List (Nat × Nat) := if a = 0 then [] else [(l, 2 * a)]

theorem tail_length (c l i : Nat) (Rt Lf : List (Nat × Nat)) : (tail c l i Rt Lf).length = c + Rt.length + Lf.length := by
  unfold tail
  simp [sibs_length]
  omega

theorem y_lt {a l : Nat} : 2 * a * 2 ^ l + 2 ^ l = (2 * a + 1) * 2 ^ l := by rw [Nat.add_mul, Nat.one_mul]

theorem node_in {a l x s : Nat} (h : x = (2 * a + 1) * 2 ^ l) (hlt : x < s) : 2 * a < s / 2 ^ l := by
  have := (Nat.le_div_iff_mul_le (Nat.two_pow_pos l)).2 (show (2 * a + 1) * 2 ^ l ≤ s by omega)
  omega

theorem impl_side {a l x s : Nat} (hx : x = (2 * a + 1) * 2 ^ l) (hctz : Lib.ctz 64 x = l) (hl : l ≤ 63) (hlt : x < s) (hs : s < 18446744073709551616) : ∃ c Rt Lf, Path (2 * a) l s c Rt Lf ∧
    Ev (fun k => proof_Consistency.f k (x : Int) (s : Int)) ((whole (firstOf a l) c l (2 * a) Rt Lf).1.map mk46, (whole (firstOf a l) c l (2 * a) Rt Lf).2.1, (whole (firstOf a l) c l (2 * a) Rt Lf).2.2, ((l + c : Nat) : Int), ((2 * a / 2 ^ c + 1 : Nat) : Int), none) := by
  have h0 := Nat.two_pow_pos l
  have hy := y_lt (a := a) (l := l)
  obtain ⟨c, Rt, Lf, hp, hc, hev⟩ := nodes_path (i := 2 * a) hl hs (node_in hx hlt)
  refine ⟨c, Rt, Lf, hp, ?_⟩
  have ex : 1 ≤ x := by omega
  have e1 : IntKind.u64.wrap ((x : Int) - 1) = ((x - 1 : Nat) : Int) := by rw [wu64 (by omega) (by omega)]; omega
  have e2 : IntKind.u64.wrap ((l : Nat) : Int) = (l : Int) := wu64 (by omega) (by omega)
  have e3 : (x - 1) / 2 ^ l = 2 * a := by
    rw [show x - 1 = 2 ^ l * (2 * a) + (2 ^ l - 1) by rw [Nat.mul_comm]; omega, Nat.mul_add_div h0, Nat.div_eq_of_lt (by omega), Nat.add_zero]
  have e4 : shr .u64 ((x - 1 : Nat) : Int) (l : Int) = ((2 * a : Nat) : Int) := by rw [← e3]; exact shr_u64 (x - 1) l rfl rfl (by omega)
  have htz : bits_TrailingZeros64.f (x : Int) = some (l : Int) := by
    unfold bits_TrailingZeros64.f
    rw [if_pos (by omega), if_pos (by omega), Int.toNat_natCast, hctz]
  have hlc := hp.lvl
  have hrl := hp.rlen
  have hj : Ev (fun k => proof_Consistency.j0 k (x : Int) (s : Int) false) ((whole (firstOf a l) c l (2 * a) Rt Lf).1.map mk46, (whole (firstOf a l) c l (2 * a) Rt Lf).2.1, (whole (firstOf a l) c l (2 * a) Rt Lf).2.2, ((l + c : Nat) : Int), ((2 * a / 2 ^ c + 1 : Nat) : Int), none) := by
    refine Ev.step (f := fun k => (proof_nodes.f k ((2 * a : Nat) : Int) (l : Int) (s : Int)).bind fun bt333 => (if ((2 * a : Nat) : Int) = 0 then ((proof_Nodes_skipFirst.f bt333.1 bt333.2.1 bt333.2.2.1 bt333.2.2.2.1 bt333.2.2.2.2).bind fun bt341 => (some (bt341.1, bt341.2.1, bt341.2.2.1, bt341.2.2.2.1, bt341.2.2.2.2, none))) else (some (bt333.1, bt333.2.1, bt333.2.2.1, bt333.2.2.2.1, bt333.2.2.2.2, none)))) (fun k => ?_) ?_
    · simp only [proof_Consistency.j0]
      rw [if_neg (by simp), htz, Option.bind_some, e1, e2, e4, if_pos (by omega)]
    · refine Ev.bind hev ?_
      unfold answer
      dsimp only
      by_cases ha : a = 0
      · subst ha
        rw [if_pos (by rfl)]
        have hsk : proof_Nodes_skipFirst.f ((ids c l (2 * 0) Rt Lf).map mk46) (if Rt.length = 0 then 0 else ((1 + c : Nat) : Int)) (if Rt.length = 0 then 0 else ((1 + c + Rt.length : Nat) : Int)) ((l + c : Nat) : Int) ((2 * 0 / 2 ^ c + 1 : Nat) : Int) =
            some ((whole (firstOf 0 l) c l (2 * 0) Rt Lf).1.map mk46, (whole (firstOf 0 l) c l (2 * 0) Rt Lf).2.1, (whole (firstOf 0 l) c l (2 * 0) Rt Lf).2.2, ((l + c : Nat) : Int), ((2 * 0 / 2 ^ c + 1 : Nat) : Int)) := by
          unfold proof_Nodes_skipFirst.f
          have hd : ((ids c l (2 * 0) Rt Lf).map mk46).drop (1 : Int).toNat = (tail c l (2 * 0) Rt Lf).map mk46 := rfl
          rw [if_pos (by rw [List.length_map, ids_length]; omega), hd, Option.bind_some]
          unfold whole firstOf
          by_cases hz : Rt.length = 0
          · rw [if_pos hz, if_pos hz, if_neg (by omega), if_pos hz, if_pos hz]
            rfl
          · rw [if_neg hz, if_neg hz, if_pos (by omega), if_neg hz, if_neg hz, w64 (by omega) (by omega), w64 (by omega) (by omega), if_pos rfl]
            rw [show ((1 + c : Nat) : Int) - 1 = ((([] : List (Nat × Nat)).length + c : Nat) : Int) by simp; omega, show ((1 + c + Rt.length : Nat) : Int) - 1 = ((([] : List (Nat × Nat)).length + c + Rt.length : Nat) : Int) by simp; omega]
            rfl
        rw [hsk]
        exact Ev.now _
      · rw [if_neg (by omega)]
        have hw : whole (firstOf a l) c l (2 * a) Rt Lf = (ids c l (2 * a) Rt Lf, (if Rt.length = 0 then 0 else ((1 + c : Nat) : Int)), (if Rt.length = 0 then 0 else ((1 + c + Rt.length : Nat) : Int))) := by
          unfold whole firstOf
          rw [if_neg ha]
          rfl
        rw [hw]
        exact Ev.now _
  refine Ev.congr (fun k => ?_) hj
  unfold proof_Consistency.f
  rw [if_neg (by omega), if_neg (by omega), show ((x : Int) == 0) = false by simp; omega]

theorem spec_side {a l x s c : Nat} {Rt Lf : List (Nat × Nat)} (hx : x = (2 * a + 1) * 2 ^ l) (hl : l ≤ 63) (hlt : x < s) (hs : s < 18446744073709551616) (hp : Path (2 * a) l s c Rt Lf) :
    Ev (fun k => spec_ConsistencyProof.f k (x : Int) (s : Int)) ((whole (firstOf a l) c l (2 * a) Rt Lf).1.map mk27, ((l + c : Nat) : Int), ((2 * a / 2 ^ c + 1 : Nat) : Int), (whole (firstOf a l) c l (2 * a) Rt Lf).2.1, (whole (firstOf a l) c l (2 * a) Rt Lf).2.2) := by
  have h0 := Nat.two_pow_pos l
  have hy := y_lt (a := a) (l := l)
  obtain ⟨y, hyy⟩ : ∃ y, y = 2 * a * 2 ^ l := ⟨_, rfl⟩
  have hxy : y + 2 ^ l = x := by omega
  obtain ⟨c', Rt', Lf', heven, htop, hR, hL, hst⟩ := M.walk0 l (2 * a) s ⟨y, x, [], 0, 0⟩ hyy hx hs (by omega)
  have hcc := M.fork_one heven htop hp.even hp.top
  subst hcc
  obtain rfl := M.isN_uniq hR hp.right
  obtain rfl := M.isN_uniq hL hp.left
  rw [← hyy, ← hx] at hst
  have hrl := hp.rlen
  have hll := hp.llen
  have hlv := hp.lvl
  have hPl := partsN_length 64 y x 0 s
  have hof := proofOf_ev hst rfl rfl rfl (by show y < x; omega) hs (by simp [sibs_length]; omega) (by omega)
  have hparts := proofIn_ev l (2 * a) (by omega) 64 64 0 s (Nat.le_refl _) (Nat.le_refl _) (Nat.dvd_zero _) (by omega) (Nat.zero_le _) (by omega) hs (by omega) true
  rw [← hyy, ← hx] at hparts
  have hno : Ev (fun k => spec_NodeOf.f k (y : Int) (x : Int)) ((l : Int), ((2 * a : Nat) : Int)) := by
    have := nodeOf_ev y l hl (by omega)
    rw [hxy, show y / 2 ^ l = 2 * a by rw [hyy]; exact Nat.mul_div_cancel _ h0] at this
    exact this
  have hfk := fork_ev hp hs (by have := Nat.le_mul_of_pos_right (2 * a) h0; omega)
  have hpp : Ev (fun k => spec_ProofParts.f k (x : Int) (s : Int)) ((if true = true ∧ 0 = y then [] else [mkP (y, x)]) ++ (partsN 64 y x 0 s).map mkP) := by
    refine Ev.congr (fun k => ?_) (Ev.bind hparts (f := fun _ t => some t) (Ev.now _))
    unfold spec_ProofParts.f
    rfl
  have hlast : spec_last.f (x : Int) = some ((y : Int), (x : Int)) := by
    have := last_ev a l (by omega)
    rw [← hx, ← hyy] at this
    exact this
  -- behind the first node
  have hj1 : ∀ first : List (Nat × Nat), first.length ≤ 1 → Ev (fun k => spec_ConsistencyProof.j1 k (s : Int) ((partsN 64 y x 0 s).map mkP) (first.map mk27) (y : Int) (x : Int)) ((whole first c' l (2 * a) Rt' Lf').1.map mk27, ((l + c' : Nat) : Int), ((2 * a / 2 ^ c' + 1 : Nat) : Int), (whole first c' l (2 * a) Rt' Lf').2.1, (whole first c' l (2 * a) Rt' Lf').2.2) := by
    intro first hf
    have hlen : (first.map mk27).length + ((tail c' l (2 * a) Rt' Lf').map mk27).length < 8796093022208 := by
      rw [List.length_map, List.length_map, tail_length]
      omega
    have hof' : Ev (fun k => spec_proofOf.f k (y : Int) (x : Int) ((partsN 64 y x 0 s).map mkP)) ((tail c' l (2 * a) Rt' Lf').map mk27, 0, 0, (if Rt'.length = 0 then 0 else (c' : Int)), (if Rt'.length = 0 then 0 else ((c' + Rt'.length : Nat) : Int))) := by
      have e1 : ([] : List (Nat × Nat)) ++ sibs c' l (2 * a) ++ Rt'.reverse ++ Lf'.reverse = tail c' l (2 * a) Rt' Lf' := by simp [tail]
      dsimp only at hof
      rw [e1] at hof
      by_cases hz : Rt'.length = 0
      · rw [if_pos hz, if_pos hz] at hof ⊢
        exact hof
      · rw [if_neg hz, if_neg hz] at hof ⊢
        simpa using hof
    refine Ev.step (f := fun k => (spec_proofOf.f k (y : Int) (x : Int) ((partsN 64 y x 0 s).map mkP)).bind fun bt445 => (if bt445.2.2.2.2 > 0 then (if (first.map mk27).length + bt445.1.length < 8796093022208 then ((spec_NodeOf.f k (y : Int) (x : Int)).bind fun bt456 => ((spec_fork.f k bt456.1 bt456.2 (s : Int)).bind fun bt458 => (some ((first.map mk27 ++ bt445.1), bt458.1, bt458.2, wrap64 (bt445.2.2.2.1 + ((first.map mk27).length : Int)), wrap64 (bt445.2.2.2.2 + ((first.map mk27).length : Int)))))) else (none)) else (if (first.map mk27).length + bt445.1.length < 8796093022208 then ((spec_NodeOf.f k (y : Int) (x : Int)).bind fun bt463 => ((spec_fork.f k bt463.1 bt463.2 (s : Int)).bind fun bt465 => (some ((first.map mk27 ++ bt445.1), bt465.1, bt465.2, bt445.2.2.2.1, bt445.2.2.2.2)))) else (none)))) (fun k => ?_) ?_
    · simp only [spec_ConsistencyProof.j1]
    · refine Ev.bind hof' ?_
      dsimp only
      by_cases hz : Rt'.length = 0
      · rw [if_pos hz]
        refine Ev.congr (fun k => (if_neg (by omega)).trans (if_pos hlen)) ?_
        refine Ev.bind hno (Ev.bind hfk ?_)
        unfold whole
        rw [if_pos hz, if_pos hz, if_pos hz, List.map_append]
        exact Ev.now _
      · rw [if_neg hz]
        refine Ev.congr (fun k => (if_pos (by omega)).trans (if_pos hlen)) ?_
        refine Ev.bind hno (Ev.bind hfk ?_)
        unfold whole
        rw [if_neg hz, if_neg hz, if_neg hz, List.map_append, List.length_map, w64 (by omega) (by omega), w64 (by omega) (by omega)]
        rw [show (c' : Int) + (first.length : Int) = ((first.length + c' : Nat) : Int) by omega, show ((c' + Rt'.length : Nat) : Int) + (first.length : Int) = ((first.length + c' + Rt'.length : Nat) : Int) by omega]
        exact Ev.now _
  have hj0 : Ev (fun k => spec_ConsistencyProof.j0 k (x : Int) (s : Int) false) ((whole (firstOf a l) c' l (2 * a) Rt' Lf').1.map mk27, ((l + c' : Nat) : Int), ((2 * a / 2 ^ c' + 1 : Nat) : Int), (whole (firstOf a l) c' l (2 * a) Rt' Lf').2.1, (whole (firstOf a l) c' l (2 * a) Rt' Lf').2.2) := by
    refine Ev.step (f := fun k => (spec_ProofParts.f k (x : Int) (s : Int)).bind fun t433 => (if (y : Int) > 0 then ((spec_NodeOf.f k (y : Int) (x : Int)).bind fun bt437 => (if 1 ≤ (t433.length : Int) then (spec_ConsistencyProof.j1 k (s : Int) (t433.drop (1 : Int).toNat) (([(⟨bt437.1, bt437.2⟩ : S27)] : List (S27))) (y : Int) (x : Int)) else (none))) else (spec_ConsistencyProof.j1 k (s : Int) t433 ([] : List (S27)) (y : Int) (x : Int)))) (fun k => ?_) ?_
    · simp only [spec_ConsistencyProof.j0]
      rw [if_neg (by simp), hlast, Option.bind_some]
    · refine Ev.bind hpp ?_
      by_cases ha : a = 0
      · have hy0 : y = 0 := by rw [hyy, ha]; simp
        rw [if_pos ⟨rfl, hy0.symm⟩]
        refine Ev.congr (fun k => if_neg (by omega)) ?_
        unfold firstOf
        rw [if_pos ha]
        exact hj1 [] (by simp)
      · have hy0 : y ≠ 0 := by
          rw [hyy]
          exact Nat.ne_of_gt (Nat.mul_pos (by omega) h0)
        rw [if_neg (by omega)]
        refine Ev.congr (fun k => if_pos (by omega)) ?_
        refine Ev.bind hno ?_
        refine Ev.congr (fun k => if_pos (by simp; omega)) ?_
        unfold firstOf
        rw [if_neg ha]
        exact hj1 [(l, 2 * a)] (by simp)
  refine Ev.congr (fun k => ?_) hj0
  unfold spec_ConsistencyProof.f
  rw [if_neg (by omega), show ((x : Int) == (s : Int)) = false by simp; omega]

theorem FnConsistency : laws_FnConsistency.Pure := by
  intro a0 a1 w0 w1
  simp only [Lit.wf, Bool.and_eq_true, decide_eq_true_eq] at w0 w1
  obtain ⟨x, rfl⟩ := Int.eq_ofNat_of_zero_le (show 0 ≤ a0 from w0.1)
  obtain ⟨s, rfl⟩ := Int.eq_ofNat_of_zero_le (show 0 ≤ a1 from w1.1)
  have hs : s < 18446744073709551616 := by
    have h1 : (s : Int) ≤ 18446744073709551615 := w1.2
    omega
  by_cases hgt : x > s
  · refine ⟨0, ?_⟩
    unfold laws_FnConsistency.f impl_Consistency.f
    rw [if_pos (by omega), Option.bind_some, if_pos (by omega)]
    rfl
  have fin : ∀ (l : List (Nat × Nat)) (v u b e : Int), l.length < 1000 → Ev (fun k => impl_Consistency.f k (x : Int) (s : Int)) (l.map mk27, v, u, b, e, true) → Ev (fun k => spec_ConsistencyProof.f k (x : Int) (s : Int)) (l.map mk27, v, u, b, e) → ∃ k, laws_FnConsistency.f k (x : Int) (s : Int) = some true := by
    intro l v u b e hl h1 h2
    have h3 := same_refl l hl v u b e
    have : Ev (fun k => laws_FnConsistency.f k (x : Int) (s : Int)) true := by
      refine Ev.congr (fun k => ?_) (Ev.bind h1 (f := fun k (bt467 : List S27 × Int × Int × Int × Int × Bool) => (if bt467.2.2.2.2.2 = true then ((spec_ConsistencyProof.f k (x : Int) (s : Int)).bind fun bt476 => ((spec_SameProof.f k bt467.1 bt467.2.1 bt467.2.2.1 bt467.2.2.2.1 bt467.2.2.2.2.1 bt476.1 bt476.2.1 bt476.2.2.1 bt476.2.2.2.1 bt476.2.2.2.2).bind fun t483 => (some t483))) else (some false))) (Ev.congr (fun k => if_pos rfl) (Ev.bind h2 (Ev.bind h3 (f := fun _ t => some t) (Ev.now _)))))
      unfold laws_FnConsistency.f
      congr 1
      funext t
      rw [if_neg (by omega)]
    exact this.rounds
  by_cases hz : x = 0 ∨ x = s
  · have h1 : Ev (fun k => proof_Consistency.f k (x : Int) (s : Int)) (([] : List (Nat × Nat)).map mk46, 0, 0, 0, 0, none) := by
      refine Ev.step (f := fun _ => some (([] : List (Nat × Nat)).map mk46, 0, 0, 0, 0, none)) (fun k => ?_) (Ev.now _)
      unfold proof_Consistency.f
      rw [if_neg (by omega)]
      by_cases he : (x : Int) = (s : Int)
      · rw [if_pos he]; exact zero_proof k _ _
      · rw [if_neg he, show ((x : Int) == 0) = true by simp; omega]; exact zero_proof k _ _
    have h2 : Ev (fun k => spec_ConsistencyProof.f k (x : Int) (s : Int)) (([] : List (Nat × Nat)).map mk27, 0, 0, 0, 0) := by
      refine Ev.step (f := fun _ => some (([] : List (Nat × Nat)).map mk27, 0, 0, 0, 0)) (fun k => ?_) (Ev.now _)
      unfold spec_ConsistencyProof.f
      by_cases he : (x : Int) = 0
      · rw [if_pos he]; exact zero_spec k _ _
      · rw [if_neg he, show ((x : Int) == (s : Int)) = true by simp; omega]; exact zero_spec k _ _
    exact fin [] 0 0 0 0 (by simp) (thin_ev (by omega) (by simp) h1) h2
  · have hx0 : x ≠ 0 := fun h => hz (.inl h)
    obtain ⟨m, hm1, hm2⟩ := M.ctz_spec x hx0 (by omega)
    have hx : x = (2 * m + 1) * 2 ^ Lib.ctz 64 x := by rw [Nat.mul_comm]; exact hm1
    obtain ⟨c, Rt, Lf, hp, h1⟩ := impl_side hx rfl (by omega) (by omega) hs
    have h2 := spec_side hx (by omega) (by omega) hs hp
    have hlen : (whole (firstOf m (Lib.ctz 64 x)) c (Lib.ctz 64 x) (2 * m) Rt Lf).1.length < 1000 := by
      have h3 := hp.rlen
      have h4 := hp.llen
      have h5 := hp.lvl
      have h6 : (firstOf m (Lib.ctz 64 x)).length ≤ 1 := by unfold firstOf; split <;> simp
      unfold whole
      rw [List.length_append, tail_length]
      omega
    exact fin _ _ _ _ _ hlen (thin_ev (by omega) hlen h1) h2
end Go.Proofs.YtmcelgfekffinaaDoor.Pure
