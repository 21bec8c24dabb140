/- Proofs as the thin package hands them out, and their comparison. -/
import Derived.Test.YtmcelgfekffinaaDoorQtPN
import Derived.Test.YtmcelgfekffinaaDoorQtx5
import Derived.Test.YtmcelgfekffinaaDoorQtx7
namespace Go.Proofs.YtmcelgfekffinaaDoor.Pure
open Go.RowKit Go.Proofs.YtmcelgfekffinaaDoor.Qt Go.Proofs.YtmcelgfekffinaaDoorW.PrintWords Go.Proofs.YtmcelgfekffinaaDoorW.PrintLast
open Go.Proofs.YtmcelgfekffinaaDoor.M (IsN sibs sibs_length)

theorem fromNodes_ev (l : List (Nat × Nat)) (h : l.length < 1000) : Ev (fun k => impl_fromNodes.f k (l.map mk46)) (l.map mk27) := by
  obtain ⟨k, hk⟩ := fromNodes_all l h
  exact Ev.of (fun _ => impl_fromNodes.mono _ _) hk

theorem fromProof_ev (l : List (Nat × Nat)) (h : l.length < 1000) (b e v x : Int) : Ev (fun k => impl_fromProof.f k (l.map mk46) b e v x) (l.map mk27, v, x, b, e) := by
  refine Ev.congr (fun k => ?_) (Ev.bind (fromNodes_ev l h) (f := fun _ t => some (t, v, x, b, e)) (Ev.now _))
  unfold impl_fromProof.f
  rw [show proof_Nodes_Ephem.f (l.map mk46) b e v x = some (v, x, b, e) from rfl, Option.bind_some]
  congr 1

theorem sameNodes_refl (post : List (Nat × Nat)) : ∀ (pre : List (Nat × Nat)), (pre ++ post).length < 1000 →
    Ev (fun k => spec_SameNodes.l0 k ((pre ++ post).map mk27) ((pre ++ post).map mk27) (((pre ++ post).length : Nat) : Int) (pre.length : Int)) true := by
  induction post with
  | nil =>
    intro pre h
    refine Ev.step (f := fun _ => some true) (fun k => ?_) (Ev.now _)
    simp only [spec_SameNodes.l0]
    rw [if_neg (by rw [List.append_nil]; omega)]
  | cons x post ih =>
    intro pre h
    have h1 := ih (pre ++ [x]) (by simpa using h)
    have e0 : pre ++ [x] ++ post = pre ++ x :: post := by simp
    rw [e0] at h1
    have hl : (pre ++ x :: post).length = pre.length + 1 + post.length := by simp; omega
    refine Ev.step (fun k => ?_) h1
    simp only [spec_SameNodes.l0]
    rw [if_pos (by omega), if_pos (by omega), if_pos (by rw [List.length_map]; omega), if_pos (by rw [List.length_map]; omega), if_neg (by simp)]
    have e1 : wrap64 ((pre.length : Int) + 1) = ((pre ++ [x]).length : Int) := by
      rw [hl] at h
      rw [w64 (by omega) (by omega), List.length_append, List.length_singleton]; omega
    rw [e1]

theorem same_refl (l : List (Nat × Nat)) (h : l.length < 1000) (v x b e : Int) : Ev (fun k => spec_SameProof.f k (l.map mk27) v x b e (l.map mk27) v x b e) true := by
  have h1 := sameNodes_refl l [] (by simpa using h)
  simp only [List.nil_append, List.length_nil] at h1
  have h2 : Ev (fun k => spec_SameNodes.f k (l.map mk27) (l.map mk27)) true := by
    refine Ev.congr (fun k => ?_) h1
    unfold spec_SameNodes.f
    rw [if_pos rfl, List.length_map]
    rfl
  refine Ev.congr (fun k => ?_) (Ev.bind h2 (f := fun _ t => if t = true then some true else some false) (by
    rw [if_pos rfl]
    exact Ev.now _))
  unfold spec_SameProof.f
  simp

theorem sibs_up (n : Nat) : ∀ (c l i : Nat), sibs c (l + n) i = M.up n (sibs c l i)
  | 0, _, _ => rfl
  | c + 1, l, i => by
    rw [sibs, sibs, show l + n + 1 = l + 1 + n by omega, sibs_up n c (l + 1)]
    rfl
theorem ids_up (n c l i : Nat) (Rt Lf : List (Nat × Nat)) : ids c (l + n) i (M.up n Rt) (M.up n Lf) = M.up n (ids c l i Rt Lf) := by
  unfold ids
  rw [sibs_up]
  simp [M.up]
theorem ids_length (c l i : Nat) (Rt Lf : List (Nat × Nat)) : (ids c l i Rt Lf).length = 1 + c + Rt.length + Lf.length := by
  unfold ids
  simp [sibs_length]
  omega

theorem skip_of (c l i : Nat) (Rt Lf : List (Nat × Nat)) (v u : Int) (hc : c ≤ 63) (hR : Rt.length ≤ 128) :
    proof_Nodes_skipFirst.f ((ids c l i Rt Lf).map mk46) (if Rt.length = 0 then 0 else ((1 + c : Nat) : Int)) (if Rt.length = 0 then 0 else ((1 + c + Rt.length : Nat) : Int)) v u =
      some ((sibs c l i ++ Rt.reverse ++ Lf.reverse).map mk46, (if Rt.length = 0 then 0 else (c : Int)), (if Rt.length = 0 then 0 else ((c + Rt.length : Nat) : Int)), v, u) := by
  unfold proof_Nodes_skipFirst.f
  have hd : ((ids c l i Rt Lf).map mk46).drop (1 : Int).toNat = (sibs c l i ++ Rt.reverse ++ Lf.reverse).map mk46 := rfl
  rw [if_pos (by rw [List.length_map, ids_length]; omega), hd, Option.bind_some]
  by_cases hz : Rt.length = 0
  · rw [if_pos hz, if_pos hz, if_neg (by omega), if_pos hz, if_pos hz]
  · rw [if_neg hz, if_neg hz, if_pos (by omega), if_neg hz, if_neg hz, w64 (by omega) (by omega), w64 (by omega) (by omega)]
    rw [show ((1 + c : Nat) : Int) - 1 = (c : Int) by omega, show ((1 + c + Rt.length : Nat) : Int) - 1 = ((c + Rt.length : Nat) : Int) by omega]
end Go.Proofs.YtmcelgfekffinaaDoor.Pure
