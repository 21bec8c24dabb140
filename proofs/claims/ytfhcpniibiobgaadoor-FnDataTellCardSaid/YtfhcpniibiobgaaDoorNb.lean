/- The tree of testonly in memory: its state, and what the steps of appendImpl do to it. -/
import Derived.Test.YtfhcpniibiobgaaDoorNa
namespace Go.Proofs.YtfhcpniibiobgaaDoor.Qf
open Go.RowKit Go.Proofs.YtfhcpniibiobgaaDoorW.PrintWords Go.Proofs.YtfhcpniibiobgaaDoorW.PrintLast Go.Proofs.YtfhcpniibiobgaaDoorW.PrintMore
open Hs (CB CL at_L at_B infoB infoL R_of_blk)

/-- A row's value. -/
abbrev RV := Option Addr × Nat × Nat
abbrev encR (x : RV) : Value := .slice x.1 x.2.1 x.2.2
abbrev z0 : RV := (none, 0, 0)
abbrev kO : Kd RV := Kd.scalar encR (fun _ => rfl)

/-- The tree at gt: n leaves, its rows' values rv (in the outer row: ro), what they hold: rows. -/
structure TSt (T : Value) (w0 : World) (gt : Nat) (S : Nat → Prop) (w : World) (n : Int) (vh : Value) (ro rv : List RV) (rows : List (List (List Int))) : Prop where
  below : Below w0.heap.size w0 w
  base : ∀ k, S k → w0.heap.size ≤ k
  top : ∀ k, S k → k < w.heap.size
  obj : w.heap[gt]? = some (.cells #[T, .int .u64 n, vh] 143 (0, 0))
  sobj : S gt
  outer : kO.R 25 w w0.heap.size (fun _ => True) vh ro
  sown : ∀ k, vh.ownBlock = some k → S k
  lo : ro.length = rows.length
  lv : rv.length = rows.length
  row : ∀ i, i < rows.length → Rows S w w0.heap.size (encR (rv.getD i z0)) (rows.getD i [])
  apart : ∀ i j, i < rows.length → j < rows.length → i ≠ j → ∀ k, (encR (rv.getD i z0)).ownBlock = some k → (encR (rv.getD j z0)).ownBlock ≠ some k
theorem getD_set_self {α : Type} (l : List α) (i : Nat) (x d : α) (h : i < l.length) : (l.set i x).getD i d = x := by
  rw [List.getD_eq_getElem?_getD, List.getElem?_set_self h]
  rfl
theorem getD_set_ne {α : Type} (l : List α) (i j : Nat) (x d : α) (h : i ≠ j) : (l.set i x).getD j d = l.getD j d := by
  rw [List.getD_eq_getElem?_getD, List.getElem?_set_ne h, List.getD_eq_getElem?_getD]
theorem getD_snoc {α : Type} (l : List α) (x d : α) (j : Nat) : (l ++ [x]).getD j d = if j = l.length then x else l.getD j d := by
  by_cases h : j = l.length
  · subst h
    rw [if_pos rfl, List.getD_eq_getElem?_getD, List.getElem?_append_right (Nat.le_refl _), Nat.sub_self]
    rfl
  · rw [if_neg h, List.getD_eq_getElem?_getD, List.getD_eq_getElem?_getD]
    rcases Nat.lt_or_ge j l.length with hl | hg
    · rw [List.getElem?_append_left hl]
    · rw [List.getElem?_append_right hg, List.getElem?_eq_none (by simp; omega), List.getElem?_eq_none hg]
section
variable {T : Value} {w0 : World} {gt : Nat} {S : Nat → Prop} {w w8 : World} {n : Int} {vh : Value} {ro rv : List RV} {rows : List (List (List Int))}
theorem TSt.step (h : TSt T w0 gt S w n vh ro rv rows) (hb : Below w.heap.size w w8) : TSt T w0 gt S w8 n vh ro rv rows where
  below := below_step h.below hb
  base := h.base
  top := fun k hk => Nat.lt_of_lt_of_le (h.top k hk) hb.size
  obj := blk_below h.obj hb
  sobj := h.sobj
  outer := Kd.R_below h.outer hb
  sown := h.sown
  lo := h.lo
  lv := h.lv
  row := fun i hi => (h.row i hi).below hb
  apart := h.apart
/-- The own block of a row: neither the tree's nor the outer row's. -/
theorem TSt.rown (h : TSt T w0 gt S w n vh ro rv rows) (i : Nat) (hi : i < rows.length) : ∀ k, (encR (rv.getD i z0)).ownBlock = some k → k ≠ gt ∧ vh.ownBlock ≠ some k ∧ k < w.heap.size ∧ S k := fun k hk => by
  have hr := h.row i hi
  obtain ⟨_, ho⟩ := Kd.R_own hr.row
  obtain ⟨cells, hc⟩ := own_typed ho k hk
  refine ⟨fun he => ?_, fun he => ?_, Kd.R_lt hr.row k hk, hr.own k hk⟩
  · subst he
    exact absurd (two_types hc h.obj) (by decide)
  · obtain ⟨_, ho2⟩ := Kd.R_own h.outer
    obtain ⟨cells2, hc2⟩ := own_typed ho2 k he
    exact absurd (two_types hc hc2) (by decide)
theorem TSt.oown (h : TSt T w0 gt S w n vh ro rv rows) : ∀ k, vh.ownBlock = some k → k ≠ gt ∧ k < w.heap.size := fun k hk => by
  obtain ⟨_, ho⟩ := Kd.R_own h.outer
  obtain ⟨cells, hc⟩ := own_typed ho k hk
  refine ⟨fun he => ?_, Kd.R_lt h.outer k hk⟩
  subst he
  exact absurd (two_types hc h.obj) (by decide)
theorem grows_own {v1 v2 : Value} (hs : ∀ k, v1.ownBlock = some k → S k) (hA : v2.ownBlock = v1.ownBlock ∨ ∃ q, v2.ownBlock = some q ∧ w.heap.size ≤ q) : Grows S (fun k => S k ∨ v2.ownBlock = some k) w := ⟨fun k hk => .inl hk, fun k hk => by
  rcases hk with hk | hk
  · exact .inl hk
  · rcases hA with h5 | ⟨b', h5, h7⟩
    · exact .inl (hs k (h5 ▸ hk))
    · rw [h5] at hk
      injection hk with hk
      exact .inr (by omega)⟩
/-- A row was appended to: not yet stored. -/
theorem TSt.app (h : TSt T w0 gt S w n vh ro rv rows) (i : Nat) (hi : i < rows.length) {v2 : RV} {l2 : List (List Int)} (hrow : (kG S w).R 28 w8 w0.heap.size (fun _ => True) (encR v2) l2)
    (hG : ∀ k, k < w.heap.size → some k ≠ (encR (rv.getD i z0)).ownBlock → w8.heap[k]? = w.heap[k]?) (hsz : w.heap.size ≤ w8.heap.size) (hB : Below w0.heap.size w0 w8) (hA : (encR v2).ownBlock = (encR (rv.getD i z0)).ownBlock ∨ ∃ q, (encR v2).ownBlock = some q ∧ w.heap.size ≤ q) :
    TSt T w0 gt (fun k => S k ∨ (encR v2).ownBlock = some k) w8 n vh ro (rv.set i v2) (rows.set i l2) ∧ Grows S (fun k => S k ∨ (encR v2).ownBlock = some k) w ∧ KeptS (fun k => S k ∨ (encR v2).ownBlock = some k) w w8 := by
  have hown := fun k hk => (h.rown i hi k hk).2.2.2
  have hg := grows_own (w := w) hown hA
  have hk : KeptS (fun k => S k ∨ (encR v2).ownBlock = some k) w w8 := ⟨hsz, fun k hk hS => hG k hk (fun he => hS (.inl (hown k he.symm)))⟩
  refine ⟨?_, hg, hk⟩
  have hnew : ∀ q, (encR v2).ownBlock = some q → q < w8.heap.size ∧ w0.heap.size ≤ q := fun q hq => ⟨Kd.R_lt hrow q hq, Kd.R_base hrow q hq⟩
  have hnj : ∀ j, j < rows.length → j ≠ i → ∀ k, (encR (rv.getD j z0)).ownBlock = some k → (encR v2).ownBlock ≠ some k := fun j hj hji k hk hk2 => by
    rcases hA with h5 | ⟨q, h5, h7⟩
    · exact h.apart j i hj hi hji k hk (h5 ▸ hk2)
    · rw [h5] at hk2
      injection hk2 with hk2
      have := (h.rown j hj k hk).2.2.1
      omega
  exact {
    below := hB
    base := fun k hk => by
      rcases hk with hk | hk
      · exact h.base k hk
      · exact (hnew k hk).2
    top := fun k hk => by
      rcases hk with hk | hk
      · exact Nat.lt_of_lt_of_le (h.top k hk) hsz
      · exact (hnew k hk).1
    obj := (hG gt (h.top _ h.sobj) (fun he => (h.rown i hi gt he.symm).1 rfl)).trans h.obj
    sobj := .inl h.sobj
    outer := Kd.R_of_own (own_move (Kd.own_of_R h.outer) fun q hq => hG q (h.oown q hq).2 (fun he => (h.rown i hi q he.symm).2.1 hq)) (fun _ _ => trivial)
    sown := fun k hk => .inl (h.sown k hk)
    lo := by rw [List.length_set]; exact h.lo
    lv := by rw [List.length_set, List.length_set]; exact h.lv
    row := fun j hj => by
      rw [List.length_set] at hj
      by_cases e : i = j
      · subst e
        rw [getD_set_self _ _ _ _ (by rw [h.lv]; exact hj), getD_set_self _ _ _ _ hj]
        obtain ⟨h0, inner, hown2, hr⟩ := hrow
        exact ⟨⟨h0, inner, hown2, hr.imp_ fun _ _ ⟨A, c, e1, e2, e3⟩ => ⟨A, c, e1, e2, e3.step hg hk⟩⟩, fun q hq => .inr hq⟩
      · rw [getD_set_ne _ _ _ _ _ e, getD_set_ne _ _ _ _ _ e]
        exact (h.row j hj).step hg hk fun q hq => hG q (h.rown j hj q hq).2.2.1 (fun he => h.apart j i hj hi (Ne.symm e) q hq he.symm)
    apart := fun j1 j2 h1 h2 hne k hk1 hk2 => by
      rw [List.length_set] at h1 h2
      by_cases e1 : i = j1
      · subst e1
        rw [getD_set_self _ _ _ _ (by rw [h.lv]; exact h1)] at hk1
        rw [getD_set_ne _ _ _ _ _ hne] at hk2
        exact hnj j2 h2 (Ne.symm hne) k hk2 hk1
      · rw [getD_set_ne _ _ _ _ _ e1] at hk1
        by_cases e2 : i = j2
        · subst e2
          rw [getD_set_self _ _ _ _ (by rw [h.lv]; exact h2)] at hk2
          exact hnj j1 h1 (Ne.symm e1) k hk1 hk2
        · rw [getD_set_ne _ _ _ _ _ e2] at hk2
          exact h.apart j1 j2 h1 h2 hne k hk1 hk2 }
/-- A row's value is stored in the outer row. -/
theorem TSt.put {go cap L : Nat} (h : TSt T w0 gt S w n (.slice (some ⟨go, 0, none⟩) L cap) ro rv rows) (hL : rows.length = L) (i : Nat) (x : RV) :
    TSt T w0 gt S (w.setCell ⟨go, i, none⟩ (encR x)) n (.slice (some ⟨go, 0, none⟩) L cap) (ro.set i x) rv rows ∧ KeptS S w (w.setCell ⟨go, i, none⟩ (encR x)) := by
  obtain rfl : ro.length = L := h.lo.trans hL
  have hgo := h.oown go rfl
  have hs := h.sown go rfl
  have far : ∀ k, k ≠ go → (w.setCell ⟨go, i, none⟩ (encR x)).heap[k]? = w.heap[k]? := fun k hk => Below.heap_setCell _ _ _ k hk
  have size9 : (w.setCell ⟨go, i, none⟩ (encR x)).heap.size = w.heap.size := by simp [World.setCell]
  have hk : KeptS S w (w.setCell ⟨go, i, none⟩ (encR x)) := ⟨by rw [size9]; exact Nat.le_refl _, fun k _ hS => far k (fun he => hS (he ▸ hs))⟩
  refine ⟨?_, hk⟩
  exact {
    below := Below.setCell h.below (h.base _ hs) _
    base := h.base
    top := fun k hk => by rw [size9]; exact h.top k hk
    obj := (far gt (Ne.symm hgo.1)).trans h.obj
    sobj := h.sobj
    outer := by
      have := (Kd.R_put h.outer (i : Int) x).1
      rwa [Int.toNat_natCast] at this
    sown := h.sown
    lo := by rw [List.length_set]; exact h.lo
    lv := h.lv
    row := fun j hj => (h.row j hj).step (Grows.refl _ _) hk fun q hq => far q (fun he => (h.rown j hj q hq).2.1 (he ▸ rfl))
    apart := h.apart }
theorem TSt.cells {go cap L : Nat} (h : TSt T w0 gt S w n (.slice (some ⟨go, 0, none⟩) L cap) ro rv rows) (hL : rows.length = L) (i : Nat) (hi : i < L) : w.cell? ⟨go, i, none⟩ = some (encR (ro.getD i z0)) ∧ w.frozen? ⟨go, i, none⟩ = false := by
  obtain rfl : ro.length = L := h.lo.trans hL
  have hc := Kd.R_cell z0 h.outer (i : Int) (by omega) (by omega)
  rw [Int.toNat_natCast] at hc
  exact hc
theorem TSt.form (h : TSt T w0 gt S w n vh ro rv rows) (hp : 0 < rows.length) : ∃ go cap, vh = .slice (some ⟨go, 0, none⟩) rows.length cap ∧ rows.length ≤ cap := by
  obtain ⟨g, cap, e, _⟩ := Kd.R_form h.outer (by rw [h.lo]; exact hp)
  have hc : ro.length ≤ cap := by
    obtain ⟨A, c, e2, hl, _⟩ := Kd.R_reads h.outer
    rw [e] at e2
    injection e2 with _ _ e3
    omega
  rw [h.lo] at e hc
  exact ⟨g, cap, e, hc⟩
/-- The number of leaves is stored. -/
theorem TSt.count (h : TSt T w0 gt S w n vh ro rv rows) (n' : Int) : TSt T w0 gt S (w.setCell ⟨gt, 1, none⟩ (.int .u64 n')) n' vh ro rv rows ∧ KeptS S w (w.setCell ⟨gt, 1, none⟩ (.int .u64 n')) := by
  have far : ∀ k, k ≠ gt → (w.setCell ⟨gt, 1, none⟩ (.int .u64 n')).heap[k]? = w.heap[k]? := fun k hk => Below.heap_setCell _ _ _ k hk
  have size9 : (w.setCell ⟨gt, 1, none⟩ (.int .u64 n')).heap.size = w.heap.size := by simp [World.setCell]
  have hk : KeptS S w (w.setCell ⟨gt, 1, none⟩ (.int .u64 n')) := ⟨by rw [size9]; exact Nat.le_refl _, fun k _ hS => far k (fun he => hS (he ▸ h.sobj))⟩
  refine ⟨?_, hk⟩
  exact {
    below := Below.setCell h.below (h.base _ h.sobj) _
    base := h.base
    top := fun k hk => by rw [size9]; exact h.top k hk
    obj := blk_set h.obj 1 _
    sobj := h.sobj
    outer := Kd.R_of_own (own_move (Kd.own_of_R h.outer) fun q hq => far q (h.oown q hq).1) (fun _ _ => trivial)
    sown := h.sown
    lo := h.lo
    lv := h.lv
    row := fun j hj => (h.row j hj).step (Grows.refl _ _) hk fun q hq => far q (h.rown j hj q hq).1
    apart := h.apart }
/-- One row more, empty: the outer row was appended to, and is stored. -/
theorem TSt.more (h : TSt T w0 gt S w n vh ro rv rows) {v2 : Value} (hrow : kO.R 25 w8 w0.heap.size (fun _ => True) v2 (ro ++ [z0]))
    (hG : ∀ k, k < w.heap.size → some k ≠ vh.ownBlock → w8.heap[k]? = w.heap[k]?) (hsz : w.heap.size ≤ w8.heap.size) (hB : Below w0.heap.size w0 w8) (hA : v2.ownBlock = vh.ownBlock ∨ ∃ q, v2.ownBlock = some q ∧ w.heap.size ≤ q) :
    TSt T w0 gt (fun k => S k ∨ v2.ownBlock = some k) (w8.setCell ⟨gt, 2, none⟩ v2) n v2 (ro ++ [z0]) (rv ++ [z0]) (rows ++ [[]]) ∧ Grows S (fun k => S k ∨ v2.ownBlock = some k) w ∧ KeptS (fun k => S k ∨ v2.ownBlock = some k) w (w8.setCell ⟨gt, 2, none⟩ v2) := by
  have hgne : some gt ≠ vh.ownBlock := fun he => (h.oown gt he.symm).1 rfl
  have hg8 := (hG gt (h.top _ h.sobj) hgne).trans h.obj
  have far : ∀ k, k ≠ gt → (w8.setCell ⟨gt, 2, none⟩ v2).heap[k]? = w8.heap[k]? := fun k hk => Below.heap_setCell _ _ _ k hk
  have size9 : (w8.setCell ⟨gt, 2, none⟩ v2).heap.size = w8.heap.size := by simp [World.setCell]
  have hg := grows_own (w := w) h.sown hA
  have hk : KeptS (fun k => S k ∨ v2.ownBlock = some k) w (w8.setCell ⟨gt, 2, none⟩ v2) := ⟨by rw [size9]; exact hsz, fun k hk hS => (far k (fun he => hS (.inl (he ▸ h.sobj)))).trans (hG k hk (fun he => hS (.inl (h.sown k he.symm))))⟩
  refine ⟨?_, hg, hk⟩
  have hob : ∀ q, v2.ownBlock = some q → q ≠ gt ∧ q < w8.heap.size ∧ w0.heap.size ≤ q := fun q hq => by
    obtain ⟨_, ho⟩ := Kd.R_own hrow
    obtain ⟨cells, hc⟩ := own_typed ho q hq
    refine ⟨fun he => ?_, Kd.R_lt hrow q hq, Kd.R_base hrow q hq⟩
    subst he
    exact absurd (two_types hc hg8) (by decide)
  have hrv : ∀ j, j < rows.length → (rv ++ [z0]).getD j z0 = rv.getD j z0 := fun j hj => by
    rw [getD_snoc, if_neg (by rw [h.lv]; omega)]
  have hrv2 : (rv ++ [z0]).getD rows.length z0 = z0 := by rw [getD_snoc, h.lv, if_pos rfl]
  exact {
    below := Below.setCell hB (h.base _ h.sobj) _
    base := fun k hk => by
      rcases hk with hk | hk
      · exact h.base k hk
      · exact (hob k hk).2.2
    top := fun k hk => by
      rw [size9]
      rcases hk with hk | hk
      · exact Nat.lt_of_lt_of_le (h.top k hk) hsz
      · exact (hob k hk).2.1
    obj := blk_set hg8 2 v2
    sobj := .inl h.sobj
    outer := Kd.R_of_own (own_move (Kd.own_of_R hrow) fun q hq => far q (hob q hq).1) (fun _ _ => trivial)
    sown := fun k hk => .inr hk
    lo := by rw [List.length_append, List.length_append, h.lo]; rfl
    lv := by rw [List.length_append, List.length_append, h.lv]; rfl
    row := fun j hj => by
      rw [List.length_append] at hj
      by_cases e : j = rows.length
      · subst e
        rw [hrv2, getD_snoc, if_pos rfl]
        exact ⟨Kd.R_nil _ _ _ _ _, fun k hk => by simp [Value.ownBlock] at hk⟩
      · have hj' : j < rows.length := by
          simp at hj
          omega
        rw [hrv j hj', getD_snoc, if_neg e]
        exact (h.row j hj').step hg hk fun q hq => (far q (h.rown j hj' q hq).1).trans (hG q (h.rown j hj' q hq).2.2.1 (fun he => (h.rown j hj' q hq).2.1 he.symm))
    apart := fun j1 j2 h1 h2 hne k hk1 hk2 => by
      rw [List.length_append] at h1 h2
      have z : ∀ k, (encR z0).ownBlock ≠ some k := fun k hk => by simp [Value.ownBlock] at hk
      by_cases e1 : j1 = rows.length
      · rw [e1, hrv2] at hk1
        exact z k hk1
      · by_cases e2 : j2 = rows.length
        · rw [e2, hrv2] at hk2
          exact z k hk2
        · simp at h1 h2
          rw [hrv j1 (by omega)] at hk1
          rw [hrv j2 (by omega)] at hk2
          exact h.apart j1 j2 (by omega) (by omega) hne k hk1 hk2 }
end
end Go.Proofs.YtfhcpniibiobgaaDoor.Qf
