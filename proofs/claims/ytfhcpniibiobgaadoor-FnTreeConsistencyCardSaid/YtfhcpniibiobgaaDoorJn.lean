/- Several texts, joined. -/
import Derived.Test.YtfhcpniibiobgaaDoorHm
import Derived.Test.YtfhcpniibiobgaaDoorQfx
import Derived.Deep.RegionHeld3
namespace Go.Proofs.YtfhcpniibiobgaaDoor.Qf
open Go.RowKit Go.Proofs.YtfhcpniibiobgaaDoorW.PrintWords Go.Proofs.YtfhcpniibiobgaaDoorW.PrintLast Go.Proofs.YtfhcpniibiobgaaDoorW.PrintMore
open Hs (CB CL at_L at_B infoB infoL R_of_blk)

theorem CB_frame {w w' : World} {A : Option Addr} {l : List Int} (h : CB w A l) (hm : 0 < l.length → ∀ ad, A = some ad → w'.heap[ad.block]? = w.heap[ad.block]?) : CB w' A l :=
  ⟨h.1, h.2.1, fun hp => by
    obtain ⟨ad, e, hc⟩ := h.2.2 hp
    refine ⟨ad, e, fun j p hj => ?_⟩
    obtain ⟨c, hl, hk, hcell⟩ := hc j p hj
    refine ⟨c, hl, hk, fun i u hu => ?_⟩
    rw [← hcell i u hu]
    unfold World.cell?
    rw [show (ad.add (j * (Kd.int .u8).sz + i)).block = ad.block by unfold Addr.add; split <;> rfl, hm hp ad e]⟩
theorem hash_blk {W : World} {base : Nat} {ok : Nat → Prop} {A : Option Addr} {n c : Nat} {l : List Int} (h : Kd.R (Kd.int .u8) 5 W base ok (.slice A n c) l) : ∀ ad, A = some ad → base ≤ ad.block ∧ ad.block < W.heap.size := by
  rintro ad rfl
  exact ⟨Kd.R_base h _ rfl, Kd.R_lt h _ rfl⟩
theorem two_types {w : World} {g t1 t2 : Nat} {c1 c2 : Array Value} (h1 : w.heap[g]? = some (.cells c1 t1 (0, 0))) (h2 : w.heap[g]? = some (.cells c2 t2 (0, 0))) : t1 = t2 := by
  rw [h1] at h2
  injection h2 with h2
  injection h2
/-- Only the blocks of S change; the others of the elder world are as they were. -/
structure KeptS (S : Nat → Prop) (w w' : World) : Prop where
  size : w.heap.size ≤ w'.heap.size
  block : ∀ k, k < w.heap.size → ¬ S k → w'.heap[k]? = w.heap[k]?
theorem KeptS.refl (S : Nat → Prop) (w : World) : KeptS S w w := ⟨Nat.le_refl _, fun _ _ _ => rfl⟩
theorem KeptS.below {S : Nat → Prop} {w w' : World} (h : Below w.heap.size w w') : KeptS S w w' := ⟨h.size, fun k hk _ => h.block k hk⟩
/-- S' has besides S only blocks that are new at w. -/
def Grows (S S' : Nat → Prop) (w : World) : Prop := (∀ k, S k → S' k) ∧ ∀ k, S' k → S k ∨ w.heap.size ≤ k
theorem Grows.refl (S : Nat → Prop) (w : World) : Grows S S w := ⟨fun _ h => h, fun _ h => .inl h⟩
theorem KeptS.trans {S S' : Nat → Prop} {a b c : World} (h : KeptS S a b) (g : Grows S S' a) (k : KeptS S' b c) : KeptS S' a c :=
  ⟨Nat.le_trans h.size k.size, fun i hi hS => (k.block i (Nat.lt_of_lt_of_le hi h.size) hS).trans (h.block i hi fun hs => hS (g.1 i hs))⟩
theorem Grows.trans {S S' S'' : Nat → Prop} {a b : World} (h : Grows S S' a) (hab : a.heap.size ≤ b.heap.size) (k : Grows S' S'' b) : Grows S S'' a :=
  ⟨fun i hi => k.1 i (h.1 i hi), fun i hi => by
    rcases k.2 i hi with h1 | h1
    · exact h.2 i h1
    · exact .inr (by omega)⟩

/-- Bytes that lie in no block that may change. -/
structure Safe (S : Nat → Prop) (w : World) (A : Option Addr) (s : List Int) : Prop where
  bytes : CB w A s
  away : 0 < s.length → ∀ ad, A = some ad → ad.block < w.heap.size ∧ ¬ S ad.block
theorem Safe.step {S S' : Nat → Prop} {w w' : World} {A : Option Addr} {s : List Int} (h : Safe S w A s) (g : Grows S S' w) (k : KeptS S' w w') : Safe S' w' A s :=
  ⟨CB_frame h.bytes fun hp ad e => k.block _ (h.away hp ad e).1 (fun hs => by
      rcases g.2 _ hs with h1 | h1
      · exact (h.away hp ad e).2 h1
      · have := (h.away hp ad e).1
        omega), fun hp ad e => ⟨Nat.lt_of_lt_of_le (h.away hp ad e).1 k.size, fun hs => by
      rcases g.2 _ hs with h1 | h1
      · exact (h.away hp ad e).2 h1
      · have := (h.away hp ad e).1
        omega⟩⟩
theorem Safe.below {S : Nat → Prop} {w w' : World} {A : Option Addr} {s : List Int} (h : Safe S w A s) (hb : Below w.heap.size w w') : Safe S w' A s := h.step (Grows.refl _ _) (KeptS.below hb)
/-- A fresh hash is safe. -/
theorem Safe.new {S : Nat → Prop} {w w' : World} {A : Option Addr} {c : Nat} {s : List Int} (hS : ∀ k, S k → k < w.heap.size) (hr : Kd.R (Kd.int .u8) 5 w' w.heap.size (fun _ => True) (.slice A s.length c) s) : Safe S w' A s :=
  ⟨(Kd.R_reads' hr).2.2, fun _ ad e => by
    obtain ⟨h1, h2⟩ := hash_blk hr ad e
    exact ⟨h2, fun hs => by have := hS _ hs; omega⟩⟩
/-- What is old and lies below all that may change is safe. -/
theorem Safe.old {S : Nat → Prop} {w0 w : World} {A : Option Addr} {s : List Int} (hb : CB w0 A s) (hw : Below w0.heap.size w0 w) (hS : ∀ k, S k → w0.heap.size ≤ k) : Safe S w A s :=
  ⟨Kd.C_below hb hw, fun hp ad e => by
    obtain ⟨ad', e', hc⟩ := at_B hb 0 hp
    rw [e] at e'
    cases e'
    have h1 := World.block_lt_of_cell? w0 _ hc
    rw [Addr.add_zero'] at h1
    exact ⟨Nat.lt_of_lt_of_le h1 hw.size, fun hs => by have := hS _ hs; omega⟩⟩

/-- A row of hashes, its own block among those that may change, its elements safe. -/
def kG (S : Nat → Prop) (w0 : World) : Kd (List Int) where
  sz := 1
  E := []
  K := fun _ x cs => ∃ A c, cs = [.slice A x.length c] ∧ x.length ≤ c ∧ Safe S w0 A x
  M := fun _ _ _ x cs => ∃ A c, cs = [.slice A x.length c] ∧ x.length ≤ c ∧ Safe S w0 A x
  K_len := by
    rintro w x cs ⟨A, c, rfl, _⟩
    rfl
  K_one := by
    rintro w x cs ⟨A, c, rfl, _⟩ u hu
    rw [List.mem_singleton.1 hu]
    rfl
  K_below := fun _ h => h
  K_of_M := fun h => h
  M_mono := fun _ h => h
  M_bound := fun h => h
  M_move := fun _ h => h
  M_lower := fun _ h => h
structure Rows (S : Nat → Prop) (w : World) (base : Nat) (v : Value) (l : List (List Int)) : Prop where
  row : (kG S w).R 28 w base (fun _ => True) v l
  own : ∀ k, v.ownBlock = some k → S k
theorem Rows.step {S S' : Nat → Prop} {w w' : World} {base : Nat} {v : Value} {l : List (List Int)} (h : Rows S w base v l) (g : Grows S S' w) (k : KeptS S' w w') (ho : ∀ q, v.ownBlock = some q → w'.heap[q]? = w.heap[q]?) : Rows S' w' base v l := by
  obtain ⟨⟨h0, inner, hown, hr⟩, h2⟩ := h
  exact ⟨⟨h0, inner, own_move hown ho, hr.imp_ fun _ _ ⟨A, c, e1, e2, e3⟩ => ⟨A, c, e1, e2, e3.step g k⟩⟩, fun q hq => g.1 q (h2 q hq)⟩
theorem Rows.below {S : Nat → Prop} {w w' : World} {base : Nat} {v : Value} {l : List (List Int)} (h : Rows S w base v l) (hb : Below w.heap.size w w') : Rows S w' base v l :=
  h.step (Grows.refl _ _) (KeptS.below hb) fun q hq => hb.block q (Kd.R_lt h.row q hq)
/-- An element of the row. -/
theorem Rows.at {S : Nat → Prop} {w : World} {base : Nat} {v : Value} {l : List (List Int)} (h : Rows S w base v l) (i : Nat) (hi : i < l.length) : ∃ ad c A0 c0, v = .slice (some ad) l.length c ∧ l.length ≤ c ∧ w.cell? (ad.add i) = some (.slice A0 (l.getD i []).length c0) ∧ (l.getD i []).length ≤ c0 ∧ Safe S w A0 (l.getD i []) := by
  obtain ⟨A, c, rfl, hl, hC⟩ := Kd.R_reads h.row
  obtain ⟨ad, cs, e, _, hK, hc0⟩ := Kd.C_get hC ([] : List Int) (i : Int) (by omega) (by omega)
  simp only [Int.toNat_natCast] at hK hc0
  have hc : ∀ j u, cs[j]? = some u → w.cell? (ad.add (i * 1 + j)) = some u := hc0
  obtain ⟨A0, c0, rfl, l0, g0⟩ := hK
  subst e
  exact ⟨ad, c, A0, c0, rfl, hl, by have hq := hc 0 _ rfl; rwa [Nat.mul_one, Nat.add_zero] at hq, l0, g0⟩
end Go.Proofs.YtfhcpniibiobgaaDoor.Qf
namespace Go.Proofs.YtfhcpniibiobgaaDoor.Qf
open Go.RowKit Go.Proofs.YtfhcpniibiobgaaDoorW.PrintWords Go.Proofs.YtfhcpniibiobgaaDoorW.PrintLast Go.Proofs.YtfhcpniibiobgaaDoorW.PrintMore
open Hs (CB CL at_L at_B infoB infoL R_of_blk)

/-- A row's value. -/
abbrev RV := Option Addr × Nat × Nat
abbrev encR (x : RV) : Value := .slice x.1 x.2.1 x.2.2
abbrev z0 : RV := (none, 0, 0)
abbrev kO : Kd RV := Kd.scalar encR (fun _ => rfl)

/-- The tree at gt: n leaves, its rows' values rv (in the outer row: ro), what they hold: rows. -/
structure TSt (T : Value) (w0 : World) (gt : Nat) (S : Nat → Prop) (w : World) (n : Int) (vh : Value) (ro rv : List RV) (rows : List (List (List Int))) : Prop where
  below : Below w0.heap.size w0 w
  base : ∀ k, S k → w0.heap.size ≤ k
  top : ∀ k, S k → k < w.heap.size
  obj : w.heap[gt]? = some (.cells #[T, .int .u64 n, vh] 143 (0, 0))
  sobj : S gt
  outer : kO.R 25 w w0.heap.size (fun _ => True) vh ro
  sown : ∀ k, vh.ownBlock = some k → S k
  lo : ro.length = rows.length
  lv : rv.length = rows.length
  row : ∀ i, i < rows.length → Rows S w w0.heap.size (encR (rv.getD i z0)) (rows.getD i [])
  apart : ∀ i j, i < rows.length → j < rows.length → i ≠ j → ∀ k, (encR (rv.getD i z0)).ownBlock = some k → (encR (rv.getD j z0)).ownBlock ≠ some k
theorem getD_set_self {α : Type} (l : List α) (i : Nat) (x d : α) (h : i < l.length) : (l.set i x).getD i d = x := by
  rw [List.getD_eq_getElem?_getD, List.getElem?_set_self h]
  rfl
theorem getD_set_ne {α : Type} (l : List α) (i j : Nat) (x d : α) (h : i ≠ j) : (l.set i x).getD j d = l.getD j d := by
  rw [List.getD_eq_getElem?_getD, List.getElem?_set_ne h, List.getD_eq_getElem?_getD]
theorem getD_snoc {α : Type} (l : List α) (x d : α) (j : Nat) : (l ++ [x]).getD j d = if j = l.length then x else l.getD j d := by
  by_cases h : j = l.length
  · subst h
    rw [if_pos rfl, List.getD_eq_getElem?_getD, List.getElem?_append_right (Nat.le_refl _), Nat.sub_self]
    rfl
  · rw [if_neg h, List.getD_eq_getElem?_getD, List.getD_eq_getElem?_getD]
    rcases Nat.lt_or_ge j l.length with hl | hg
    · rw [List.getElem?_append_left hl]
    · rw [List.getElem?_append_right hg, List.getElem?_eq_none (by simp; omega), List.getElem?_eq_none hg]
section
variable {T : Value} {w0 : World} {gt : Nat} {S : Nat → Prop} {w w8 : World} {n : Int} {vh : Value} {ro rv : List RV} {rows : List (List (List Int))}
theorem TSt.step (h : TSt T w0 gt S w n vh ro rv rows) (hb : Below w.heap.size w w8) : TSt T w0 gt S w8 n vh ro rv rows where
  below := below_step h.below hb
  base := h.base
  top := fun k hk => Nat.lt_of_lt_of_le (h.top k hk) hb.size
  obj := blk_below h.obj hb
  sobj := h.sobj
  outer := Kd.R_below h.outer hb
  sown := h.sown
  lo := h.lo
  lv := h.lv
  row := fun i hi => (h.row i hi).below hb
  apart := h.apart
/-- The own block of a row: neither the tree's nor the outer row's. -/
theorem TSt.rown (h : TSt T w0 gt S w n vh ro rv rows) (i : Nat) (hi : i < rows.length) : ∀ k, (encR (rv.getD i z0)).ownBlock = some k → k ≠ gt ∧ vh.ownBlock ≠ some k ∧ k < w.heap.size ∧ S k := fun k hk => by
  have hr := h.row i hi
  obtain ⟨_, ho⟩ := Kd.R_own hr.row
  obtain ⟨cells, hc⟩ := own_typed ho k hk
  refine ⟨fun he => ?_, fun he => ?_, Kd.R_lt hr.row k hk, hr.own k hk⟩
  · subst he
    exact absurd (two_types hc h.obj) (by decide)
  · obtain ⟨_, ho2⟩ := Kd.R_own h.outer
    obtain ⟨cells2, hc2⟩ := own_typed ho2 k he
    exact absurd (two_types hc hc2) (by decide)
theorem TSt.oown (h : TSt T w0 gt S w n vh ro rv rows) : ∀ k, vh.ownBlock = some k → k ≠ gt ∧ k < w.heap.size := fun k hk => by
  obtain ⟨_, ho⟩ := Kd.R_own h.outer
  obtain ⟨cells, hc⟩ := own_typed ho k hk
  refine ⟨fun he => ?_, Kd.R_lt h.outer k hk⟩
  subst he
  exact absurd (two_types hc h.obj) (by decide)
theorem grows_own {v1 v2 : Value} (hs : ∀ k, v1.ownBlock = some k → S k) (hA : v2.ownBlock = v1.ownBlock ∨ ∃ q, v2.ownBlock = some q ∧ w.heap.size ≤ q) : Grows S (fun k => S k ∨ v2.ownBlock = some k) w := ⟨fun k hk => .inl hk, fun k hk => by
  rcases hk with hk | hk
  · exact .inl hk
  · rcases hA with h5 | ⟨b', h5, h7⟩
    · exact .inl (hs k (h5 ▸ hk))
    · rw [h5] at hk
      injection hk with hk
      exact .inr (by omega)⟩
/-- A row was appended to: not yet stored. -/
theorem TSt.app (h : TSt T w0 gt S w n vh ro rv rows) (i : Nat) (hi : i < rows.length) {v2 : RV} {l2 : List (List Int)} (hrow : (kG S w).R 28 w8 w0.heap.size (fun _ => True) (encR v2) l2)
    (hG : ∀ k, k < w.heap.size → some k ≠ (encR (rv.getD i z0)).ownBlock → w8.heap[k]? = w.heap[k]?) (hsz : w.heap.size ≤ w8.heap.size) (hB : Below w0.heap.size w0 w8) (hA : (encR v2).ownBlock = (encR (rv.getD i z0)).ownBlock ∨ ∃ q, (encR v2).ownBlock = some q ∧ w.heap.size ≤ q) :
    TSt T w0 gt (fun k => S k ∨ (encR v2).ownBlock = some k) w8 n vh ro (rv.set i v2) (rows.set i l2) ∧ Grows S (fun k => S k ∨ (encR v2).ownBlock = some k) w ∧ KeptS (fun k => S k ∨ (encR v2).ownBlock = some k) w w8 := by
  have hown := fun k hk => (h.rown i hi k hk).2.2.2
  have hg := grows_own (w := w) hown hA
  have hk : KeptS (fun k => S k ∨ (encR v2).ownBlock = some k) w w8 := ⟨hsz, fun k hk hS => hG k hk (fun he => hS (.inl (hown k he.symm)))⟩
  refine ⟨?_, hg, hk⟩
  have hnew : ∀ q, (encR v2).ownBlock = some q → q < w8.heap.size ∧ w0.heap.size ≤ q := fun q hq => ⟨Kd.R_lt hrow q hq, Kd.R_base hrow q hq⟩
  have hnj : ∀ j, j < rows.length → j ≠ i → ∀ k, (encR (rv.getD j z0)).ownBlock = some k → (encR v2).ownBlock ≠ some k := fun j hj hji k hk hk2 => by
    rcases hA with h5 | ⟨q, h5, h7⟩
    · exact h.apart j i hj hi hji k hk (h5 ▸ hk2)
    · rw [h5] at hk2
      injection hk2 with hk2
      have := (h.rown j hj k hk).2.2.1
      omega
  exact {
    below := hB
    base := fun k hk => by
      rcases hk with hk | hk
      · exact h.base k hk
      · exact (hnew k hk).2
    top := fun k hk => by
      rcases hk with hk | hk
      · exact Nat.lt_of_lt_of_le (h.top k hk) hsz
      · exact (hnew k hk).1
    obj := (hG gt (h.top _ h.sobj) (fun he => (h.rown i hi gt he.symm).1 rfl)).trans h.obj
    sobj := .inl h.sobj
    outer := Kd.R_of_own (own_move (Kd.own_of_R h.outer) fun q hq => hG q (h.oown q hq).2 (fun he => (h.rown i hi q he.symm).2.1 hq)) (fun _ _ => trivial)
    sown := fun k hk => .inl (h.sown k hk)
    lo := by rw [List.length_set]; exact h.lo
    lv := by rw [List.length_set, List.length_set]; exact h.lv
    row := fun j hj => by
      rw [List.length_set] at hj
      by_cases e : i = j
      · subst e
        rw [getD_set_self _ _ _ _ (by rw [h.lv]; exact hj), getD_set_self _ _ _ _ hj]
        obtain ⟨h0, inner, hown2, hr⟩ := hrow
        exact ⟨⟨h0, inner, hown2, hr.imp_ fun _ _ ⟨A, c, e1, e2, e3⟩ => ⟨A, c, e1, e2, e3.step hg hk⟩⟩, fun q hq => .inr hq⟩
      · rw [getD_set_ne _ _ _ _ _ e, getD_set_ne _ _ _ _ _ e]
        exact (h.row j hj).step hg hk fun q hq => hG q (h.rown j hj q hq).2.2.1 (fun he => h.apart j i hj hi (Ne.symm e) q hq he.symm)
    apart := fun j1 j2 h1 h2 hne k hk1 hk2 => by
      rw [List.length_set] at h1 h2
      by_cases e1 : i = j1
      · subst e1
        rw [getD_set_self _ _ _ _ (by rw [h.lv]; exact h1)] at hk1
        rw [getD_set_ne _ _ _ _ _ hne] at hk2
        exact hnj j2 h2 (Ne.symm hne) k hk2 hk1
      · rw [getD_set_ne _ _ _ _ _ e1] at hk1
        by_cases e2 : i = j2
        · subst e2
          rw [getD_set_self _ _ _ _ (by rw [h.lv]; exact h2)] at hk2
          exact hnj j1 h1 (Ne.symm e1) k hk1 hk2
        · rw [getD_set_ne _ _ _ _ _ e2] at hk2
          exact h.apart j1 j2 h1 h2 hne k hk1 hk2 }
/-- A row's value is stored in the outer row. -/
theorem TSt.put {go cap L : Nat} (h : TSt T w0 gt S w n (.slice (some ⟨go, 0, none⟩) L cap) ro rv rows) (hL : rows.length = L) (i : Nat) (x : RV) :
    TSt T w0 gt S (w.setCell ⟨go, i, none⟩ (encR x)) n (.slice (some ⟨go, 0, none⟩) L cap) (ro.set i x) rv rows ∧ KeptS S w (w.setCell ⟨go, i, none⟩ (encR x)) := by
  obtain rfl : ro.length = L := h.lo.trans hL
  have hgo := h.oown go rfl
  have hs := h.sown go rfl
  have far : ∀ k, k ≠ go → (w.setCell ⟨go, i, none⟩ (encR x)).heap[k]? = w.heap[k]? := fun k hk => Below.heap_setCell _ _ _ k hk
  have size9 : (w.setCell ⟨go, i, none⟩ (encR x)).heap.size = w.heap.size := by simp [World.setCell]
  have hk : KeptS S w (w.setCell ⟨go, i, none⟩ (encR x)) := ⟨by rw [size9]; exact Nat.le_refl _, fun k _ hS => far k (fun he => hS (he ▸ hs))⟩
  refine ⟨?_, hk⟩
  exact {
    below := Below.setCell h.below (h.base _ hs) _
    base := h.base
    top := fun k hk => by rw [size9]; exact h.top k hk
    obj := (far gt (Ne.symm hgo.1)).trans h.obj
    sobj := h.sobj
    outer := by
      have := (Kd.R_put h.outer (i : Int) x).1
      rwa [Int.toNat_natCast] at this
    sown := h.sown
    lo := by rw [List.length_set]; exact h.lo
    lv := h.lv
    row := fun j hj => (h.row j hj).step (Grows.refl _ _) hk fun q hq => far q (fun he => (h.rown j hj q hq).2.1 (he ▸ rfl))
    apart := h.apart }
theorem TSt.cells {go cap L : Nat} (h : TSt T w0 gt S w n (.slice (some ⟨go, 0, none⟩) L cap) ro rv rows) (hL : rows.length = L) (i : Nat) (hi : i < L) : w.cell? ⟨go, i, none⟩ = some (encR (ro.getD i z0)) ∧ w.frozen? ⟨go, i, none⟩ = false := by
  obtain rfl : ro.length = L := h.lo.trans hL
  have hc := Kd.R_cell z0 h.outer (i : Int) (by omega) (by omega)
  rw [Int.toNat_natCast] at hc
  exact hc
theorem TSt.form (h : TSt T w0 gt S w n vh ro rv rows) (hp : 0 < rows.length) : ∃ go cap, vh = .slice (some ⟨go, 0, none⟩) rows.length cap ∧ rows.length ≤ cap := by
  obtain ⟨g, cap, e, _⟩ := Kd.R_form h.outer (by rw [h.lo]; exact hp)
  have hc : ro.length ≤ cap := by
    obtain ⟨A, c, e2, hl, _⟩ := Kd.R_reads h.outer
    rw [e] at e2
    injection e2 with _ _ e3
    omega
  rw [h.lo] at e hc
  exact ⟨g, cap, e, hc⟩
/-- The number of leaves is stored. -/
theorem TSt.count (h : TSt T w0 gt S w n vh ro rv rows) (n' : Int) : TSt T w0 gt S (w.setCell ⟨gt, 1, none⟩ (.int .u64 n')) n' vh ro rv rows ∧ KeptS S w (w.setCell ⟨gt, 1, none⟩ (.int .u64 n')) := by
  have far : ∀ k, k ≠ gt → (w.setCell ⟨gt, 1, none⟩ (.int .u64 n')).heap[k]? = w.heap[k]? := fun k hk => Below.heap_setCell _ _ _ k hk
  have size9 : (w.setCell ⟨gt, 1, none⟩ (.int .u64 n')).heap.size = w.heap.size := by simp [World.setCell]
  have hk : KeptS S w (w.setCell ⟨gt, 1, none⟩ (.int .u64 n')) := ⟨by rw [size9]; exact Nat.le_refl _, fun k _ hS => far k (fun he => hS (he ▸ h.sobj))⟩
  refine ⟨?_, hk⟩
  exact {
    below := Below.setCell h.below (h.base _ h.sobj) _
    base := h.base
    top := fun k hk => by rw [size9]; exact h.top k hk
    obj := blk_set h.obj 1 _
    sobj := h.sobj
    outer := Kd.R_of_own (own_move (Kd.own_of_R h.outer) fun q hq => far q (h.oown q hq).1) (fun _ _ => trivial)
    sown := h.sown
    lo := h.lo
    lv := h.lv
    row := fun j hj => (h.row j hj).step (Grows.refl _ _) hk fun q hq => far q (h.rown j hj q hq).1
    apart := h.apart }
/-- One row more, empty: the outer row was appended to, and is stored. -/
theorem TSt.more (h : TSt T w0 gt S w n vh ro rv rows) {v2 : Value} (hrow : kO.R 25 w8 w0.heap.size (fun _ => True) v2 (ro ++ [z0]))
    (hG : ∀ k, k < w.heap.size → some k ≠ vh.ownBlock → w8.heap[k]? = w.heap[k]?) (hsz : w.heap.size ≤ w8.heap.size) (hB : Below w0.heap.size w0 w8) (hA : v2.ownBlock = vh.ownBlock ∨ ∃ q, v2.ownBlock = some q ∧ w.heap.size ≤ q) :
    TSt T w0 gt (fun k => S k ∨ v2.ownBlock = some k) (w8.setCell ⟨gt, 2, none⟩ v2) n v2 (ro ++ [z0]) (rv ++ [z0]) (rows ++ [[]]) ∧ Grows S (fun k => S k ∨ v2.ownBlock = some k) w ∧ KeptS (fun k => S k ∨ v2.ownBlock = some k) w (w8.setCell ⟨gt, 2, none⟩ v2) := by
  have hgne : some gt ≠ vh.ownBlock := fun he => (h.oown gt he.symm).1 rfl
  have hg8 := (hG gt (h.top _ h.sobj) hgne).trans h.obj
  have far : ∀ k, k ≠ gt → (w8.setCell ⟨gt, 2, none⟩ v2).heap[k]? = w8.heap[k]? := fun k hk => Below.heap_setCell _ _ _ k hk
  have size9 : (w8.setCell ⟨gt, 2, none⟩ v2).heap.size = w8.heap.size := by simp [World.setCell]
  have hg := grows_own (w := w) h.sown hA
  have hk : KeptS (fun k => S k ∨ v2.ownBlock = some k) w (w8.setCell ⟨gt, 2, none⟩ v2) := ⟨by rw [size9]; exact hsz, fun k hk hS => (far k (fun he => hS (.inl (he ▸ h.sobj)))).trans (hG k hk (fun he => hS (.inl (h.sown k he.symm))))⟩
  refine ⟨?_, hg, hk⟩
  have hob : ∀ q, v2.ownBlock = some q → q ≠ gt ∧ q < w8.heap.size ∧ w0.heap.size ≤ q := fun q hq => by
    obtain ⟨_, ho⟩ := Kd.R_own hrow
    obtain ⟨cells, hc⟩ := own_typed ho q hq
    refine ⟨fun he => ?_, Kd.R_lt hrow q hq, Kd.R_base hrow q hq⟩
    subst he
    exact absurd (two_types hc hg8) (by decide)
  have hrv : ∀ j, j < rows.length → (rv ++ [z0]).getD j z0 = rv.getD j z0 := fun j hj => by
    rw [getD_snoc, if_neg (by rw [h.lv]; omega)]
  have hrv2 : (rv ++ [z0]).getD rows.length z0 = z0 := by rw [getD_snoc, h.lv, if_pos rfl]
  exact {
    below := Below.setCell hB (h.base _ h.sobj) _
    base := fun k hk => by
      rcases hk with hk | hk
      · exact h.base k hk
      · exact (hob k hk).2.2
    top := fun k hk => by
      rw [size9]
      rcases hk with hk | hk
      · exact Nat.lt_of_lt_of_le (h.top k hk) hsz
      · exact (hob k hk).2.1
    obj := blk_set hg8 2 v2
    sobj := .inl h.sobj
    outer := Kd.R_of_own (own_move (Kd.own_of_R hrow) fun q hq => far q (hob q hq).1) (fun _ _ => trivial)
    sown := fun k hk => .inr hk
    lo := by rw [List.length_append, List.length_append, h.lo]; rfl
    lv := by rw [List.length_append, List.length_append, h.lv]; rfl
    row := fun j hj => by
      rw [List.length_append] at hj
      by_cases e : j = rows.length
      · subst e
        rw [hrv2, getD_snoc, if_pos rfl]
        exact ⟨Kd.R_nil _ _ _ _ _, fun k hk => by simp [Value.ownBlock] at hk⟩
      · have hj' : j < rows.length := by
          simp at hj
          omega
        rw [hrv j hj', getD_snoc, if_neg e]
        exact (h.row j hj').step hg hk fun q hq => (far q (h.rown j hj' q hq).1).trans (hG q (h.rown j hj' q hq).2.2.1 (fun he => (h.rown j hj' q hq).2.1 he.symm))
    apart := fun j1 j2 h1 h2 hne k hk1 hk2 => by
      rw [List.length_append] at h1 h2
      have z : ∀ k, (encR z0).ownBlock ≠ some k := fun k hk => by simp [Value.ownBlock] at hk
      by_cases e1 : j1 = rows.length
      · rw [e1, hrv2] at hk1
        exact z k hk1
      · by_cases e2 : j2 = rows.length
        · rw [e2, hrv2] at hk2
          exact z k hk2
        · simp at h1 h2
          rw [hrv j1 (by omega)] at hk1
          rw [hrv j2 (by omega)] at hk2
          exact h.apart j1 j2 (by omega) (by omega) hne k hk1 hk2 }
end
end Go.Proofs.YtfhcpniibiobgaaDoor.Qf
namespace Go.Proofs.YtfhcpniibiobgaaDoor.Qf
open Go.RowKit Go.Proofs.YtfhcpniibiobgaaDoorW.PrintWords Go.Proofs.YtfhcpniibiobgaaDoorW.PrintLast Go.Proofs.YtfhcpniibiobgaaDoorW.PrintMore
open Hs (CB CL at_L at_B infoB infoL R_of_blk)

theorem w64_in (n : Int) (h : -9223372036854775808 ≤ n ∧ n ≤ 9223372036854775807) : wrap64 n = n := by unfold wrap64; omega
theorem w64_is (n : Int) : IntKind.i64.wrap n = wrap64 n := by
  unfold wrap64 IntKind.wrap
  simp [IntKind.bits, IntKind.signed]
  omega
theorem store_step {P : Program} {ops : Array Oper} {o : Oper} {a : Act} {Q : Exit → Act → World → Prop} {Kc : Act → World → Prop} {W w1 : World} (hw : Region.wanted o (yielded ops a.tmps) = true) (hrun : (execOp a.eval o).run P W = .ok .skip w1) (h : Kc (a.put o.dst undef) w1) : if Region.wanted o (yielded ops a.tmps) = true then Oper.wp P o a W Kc Q else Kc (a.put o.dst undef) W := by
  rw [if_pos hw]
  unfold Oper.wp
  rw [hrun]
  exact h
theorem infoRR : (Tryd.prog.info? 25).map (fun i => (i.zero, i.size, i.bytes)) = some (some (.slice none 0 0), 1, 24) := by kernel_rfl
/-- A value of our hash function, as an interface holds it. -/
abbrev toyV (a0 a1 a2 a3 a4 a5 : Int) : Value := .iface 90 (.agg #[.int .i64 a0, .int .i64 a1, .int .i64 a2, .int .u64 a3, .int .u64 a4, .int .u64 a5])
theorem meth_hc (a0 a1 a2 a3 a4 a5 : Int) (W : World) : (method 304 90 (.agg #[.int .i64 a0, .int .i64 a1, .int .i64 a2, .int .u64 a3, .int .u64 a4, .int .u64 a5]) "HashChildren").run Tryd.prog W = .ok (53, .agg #[.int .i64 a0, .int .i64 a1, .int .i64 a2, .int .u64 a3, .int .u64 a4, .int .u64 a5]) W := by kernel_rfl
/-- The rows, the first j of them one hash longer. -/
def upR (rows : List (List (List Int))) (sj : Nat → List Int) : Nat → List (List (List Int))
  | 0 => rows
  | j + 1 => (upR rows sj j).set j ((upR rows sj j).getD j [] ++ [sj j])
theorem upR_len (rows : List (List (List Int))) (sj : Nat → List Int) : ∀ j, (upR rows sj j).length = rows.length
  | 0 => rfl
  | j + 1 => by rw [upR, List.length_set, upR_len rows sj j]
theorem upR_hi (rows : List (List (List Int))) (sj : Nat → List Int) : ∀ j i, j ≤ i → (upR rows sj j).getD i [] = rows.getD i []
  | 0, i, _ => rfl
  | j + 1, i, h => by rw [upR, getD_set_ne _ _ _ _ _ (by omega), upR_hi rows sj j i (by omega)]
/-- The rows with one leaf more, whose merges go up to level m. -/
def upT (rows : List (List (List Int))) (sj : Nat → List Int) (m : Nat) : List (List (List Int)) :=
  if m = rows.length then upR rows sj m ++ [[sj m]] else (upR rows sj m).set m (rows.getD m [] ++ [sj m])
theorem TSt.rowv {T : Value} {w0 : World} {gt : Nat} {S : Nat → Prop} {w : World} {n : Int} {vh : Value} {ro rv : List RV} {rows : List (List (List Int))} (h : TSt T w0 gt S w n vh ro rv rows) (i : Nat) (hi : i < rows.length) : ∃ A c, rv.getD i z0 = (A, (rows.getD i []).length, c) ∧ (rows.getD i []).length ≤ c := by
  obtain ⟨A, c, e, hl, _⟩ := Kd.R_reads (h.row i hi).row
  rcases hx : rv.getD i z0 with ⟨x1, x2, x3⟩
  rw [hx] at e
  injection e with e1 e2 e3
  obtain rfl : x1 = A := e1
  obtain rfl : x2 = (rows.getD i []).length := e2
  obtain rfl : x3 = c := e3
  exact ⟨_, _, rfl, hl⟩
set_option maxHeartbeats 4000000 in
set_option maxRecDepth 100000 in
theorem tAppend_calls (a0 a1 a2 a3 a4 a5 : Int) (w0 : World) (gt : Nat) (S : Nat → Prop) (w : World) (n : Nat) (vh : Value) (rv : List RV) (rows : List (List (List Int))) (As : Option Addr) (cs : Nat) (sj : Nat → List Int) (m : Nat)
    (h : TSt (toyV a0 a1 a2 a3 a4 a5) w0 gt S w (n : Int) vh rv rv rows) (hs : Safe S w As (sj 0)) (hsc : (sj 0).length ≤ cs) (hn : n + 1 < 18446744073709551616) (hm : m ≤ rows.length) (hrl : rows.length ≤ 100) (hm64 : m < 64) (hlen : ∀ i, i < rows.length → (rows.getD i []).length ≤ 100000)
    (hbits : ∀ i, i < m → n / 2 ^ i % 2 = 1) (hbit : n / 2 ^ m % 2 = 0) (hne : ∀ i, i < m → 0 < (rows.getD i []).length) (hH : ∀ i, i < m → impl_toy_HashChildren.f a0 a1 a2 a3 a4 a5 ((rows.getD i []).getD ((rows.getD i []).length - 1) []) (sj i) = some (sj (i + 1))) :
    Calls Tryd.prog 84 #[.pointer (some ⟨gt, 0, none⟩), .slice As (sj 0).length cs] w fun en w' => ∃ v0 vh' rv' S', en = .returned v0 ∧ TSt (toyV a0 a1 a2 a3 a4 a5) w0 gt S' w' ((n : Int) + 1) vh' rv' rv' (upT rows sj m) ∧ Grows S S' w ∧ KeptS S' w w' := by
  have HT := Aside0.mk h
  have HS := Aside0.mk hs
  have HLN := Aside0.mk hlen
  have HBI := Aside0.mk hbits
  have HBM := Aside0.mk hbit
  have HNE := Aside0.mk hne
  have HH := Aside0.mk hH
  have HN := Aside0.mk hn
  have HM := Aside0.mk hm
  have HM64 := Aside0.mk hm64
  have HRL := Aside0.mk hrl
  have HSC := Aside0.mk hsc
  clear h hs hlen hbits hbit hne hH hn hm hm64 hrl hsc
  have hmt := meth_hc a0 a1 a2 a3 a4 a5
  have hbt : ∀ j : Nat, j ≤ m → (Go.bits .and .u64 ((n : Int) / 2 ^ min j 64) 1 == 1) = decide (n / 2 ^ j % 2 = 1) := fun j hj => by
    have h1 := HM64.out
    have h2 := HN.out
    rw [show min j 64 = j by omega, show (n : Int) / 2 ^ j = ((n / 2 ^ j : Nat) : Int) by push_cast; rfl, show (1 : Int) = ((1 : Nat) : Int) from rfl, bits_and_u64_nat _ 1 (Nat.lt_of_le_of_lt (Nat.div_le_self _ _) (by omega)) (by omega), Nat.and_one_is_mod]
    by_cases h : n / 2 ^ j % 2 = 1
    · rw [decide_eq_true h, h]
      rfl
    · rw [decide_eq_false h, show n / 2 ^ j % 2 = 0 by omega]
      rfl
  have HBT := Aside0.mk hbt
  clear hbt
  go_enter Tryd.func84, Tryd.ntmps84
  go_wp2_with fail
  (try simp only [Act.put, List.setIfInBounds_toArray, List.set_cons_zero, List.set_cons_succ])
  go_loopg [1, 4] m (fun kq v1 v4 wr => ∃ (j : Nat) (A' : Option Addr) (c' : Nat) (rv' : List RV) (S' : Nat → Prop), j + kq = m ∧ v1 = .slice A' (sj j).length c' ∧ v4 = .int .i64 (j : Nat) ∧ Aside0 ((sj j).length ≤ c') ∧ Aside0 (TSt (toyV a0 a1 a2 a3 a4 a5) w0 gt S' wr (n : Int) vh rv' rv' (upR rows sj j)) ∧ Aside0 (Safe S' wr A' (sj j)) ∧ Aside0 (Grows S S' w) ∧ Aside0 (KeptS S' w wr))
  case atStart => exact ⟨0, As, cs, rv, S, by omega, rfl, rfl, HSC, HT, HS, ⟨Grows.refl _ _⟩, ⟨KeptS.refl _ _⟩⟩
  case round =>
    clear HT HS HSC
    obtain ⟨j, A', c', rv', S', hjm, rfl, rfl, HSC, HT, HS, HGr, HKp⟩ := hrel
    rename World => wr
    have q0 : (0 : Int) ≤ (j : Int) := by omega
    have k0 : wr.cell? ⟨gt, 0, none⟩ = some (toyV a0 a1 a2 a3 a4 a5) := (blk_cell HT.out.obj 0).trans rfl
    have k1 : wr.cell? ⟨gt, 1, none⟩ = some (.int .u64 (n : Int)) := (blk_cell HT.out.obj 1).trans rfl
    have k2 : wr.cell? ⟨gt, 2, none⟩ = some vh := (blk_cell HT.out.obj 2).trans rfl
    have HLU := upR_len rows sj j
    by_cases hlt : j < m
    · have HJM := Aside0.mk hjm
      have hb1 : (Go.bits .and .u64 ((n : Int) / 2 ^ min j 64) 1 == 1) = true := by rw [HBT.out j (by omega), decide_eq_true (HBI.out j hlt)]
      have hju : j < (upR rows sj j).length := by rw [HLU]; have := HM.out; omega
      obtain ⟨go, cap, hvh, hcap⟩ := HT.out.form (by omega)
      rw [HLU] at hvh hcap
      subst hvh
      obtain ⟨Ar, cr, hrv, hcr⟩ := HT.out.rowv j hju
      have hcell := (HT.out.cells HLU j (by rw [← HLU]; exact hju)).1
      rw [hrv] at hcell
      rw [upR_hi rows sj j j (Nat.le_refl _)] at hcell hcr hrv
      have hju2 : (j : Int) < (rows.length : Int) := by omega
      have HROW := Aside0.mk (HT.out.row j hju)
      have HLj := Aside0.mk (HLN.out j (by have := HM.out; omega))
      have hrw0 := HROW.out
      rw [hrv, upR_hi rows sj j j (Nat.le_refl _)] at hrw0
      have HRW := Aside0.mk hrw0
      have HRV := Aside0.mk (congrArg encR hrv)
      clear hrw0 HROW hrv
      have hc0 : wr.cell? ⟨go, j, none⟩ = some (.slice Ar (rows.getD j []).length cr) := hcell
      clear hcell
      generalize hrowj : rows.getD j [] = rowj at hc0 hcr HLj HRW HRV
      have HROJ := Aside0.mk hrowj
      clear hrowj
      go_wp2_with (first
        | ((with_reducible refine gate_builtin (b := .append) (xs := #[.tmp 22, .tmp 24]) rfl ?_); at_builtin; refine Kd.R_append (kG S' wr) (w0 := w0) w0.heap.size rfl (.tmp 22) (.tmp 24) 25 28 (.slice none 0 0) 24 rfl Tryd.underlying25 infoL rfl Nat.zero_lt_one (by omega) (.slice Ar rowj.length cr) rowj (sj j) [.slice A' (sj j).length c'] (fun _ => True) (fun _ => False) rfl rfl ⟨A', c', rfl, HSC.out, HS.out⟩ (fun _ h => h.elim) (fun _ _ => trivial) HRW.out.row HT.out.below HT.out.below.size (by have := HLj.out; omega) ?_; intro v8 w8 ho hb hg hat; have HO8 := Aside0.mk ho; have HB8 := Aside0.mk hb; have HG8 := Aside0.mk hg; have HA8 := Aside0.mk hat; clear ho hb hg hat))
      obtain ⟨Av, cv, rfl⟩ := Kd.R_slice HO8.out
      obtain ⟨N2, hN2⟩ : ∃ N2, N2 = rowj.length + 1 := ⟨_, rfl⟩
      have hrl2 : (rowj ++ [sj j]).length = N2 := by rw [hN2, List.length_append, List.length_singleton]
      obtain ⟨q, hq⟩ : ∃ q, rowj.length = q + 1 := ⟨rowj.length - 1, by have := HNE.out j hlt; rw [HROJ.out] at this; omega⟩
      obtain ⟨hT8, hG8, hK8⟩ := HT.out.app j hju (v2 := (Av, (rowj ++ [sj j]).length, cv)) HO8.out (fun k hk hne => HG8.out.block k hk (by rw [HRV.out] at hne; exact hne)) HG8.out.size HB8.out (by rw [HRV.out]; exact HA8.out)
      have hup : (upR rows sj j).set j (rowj ++ [sj j]) = upR rows sj (j + 1) := by rw [upR, upR_hi rows sj j j (Nat.le_refl _), HROJ.out]
      rw [hup] at hT8
      have hju3 : j < (upR rows sj (j + 1)).length := by rw [upR_len]; have := HM.out; omega
      have hrow8 := hT8.row j hju3
      have hget : (upR rows sj (j + 1)).getD j [] = rowj ++ [sj j] := by rw [← hup, getD_set_self _ _ _ _ hju]
      rw [hget] at hrow8
      obtain ⟨ad, cx, Ah, ch, hsl, _, hxc, hlh, hsafe⟩ := hrow8.at q (by omega)
      have hvv : (rv'.set j (Av, (rowj ++ [sj j]).length, cv)).getD j z0 = (Av, (rowj ++ [sj j]).length, cv) := getD_set_self _ _ _ _ (by rw [HT.out.lv]; exact hju)
      rw [hvv] at hsl
      injection hsl with hsl1 _ hsl3
      subst hsl1 hsl3
      have hlast : (rowj ++ [sj j]).getD q [] = rowj.getD (rowj.length - 1) [] := by
        rw [List.getD_eq_getElem?_getD, List.getElem?_append_left (by omega), List.getD_eq_getElem?_getD, show rowj.length - 1 = q by omega]
      rw [hlast] at hxc hlh hsafe
      have hhc := HH.out j hlt
      rw [HROJ.out] at hhc
      generalize rowj.getD (rowj.length - 1) [] = hsh at hxc hlh hsafe hhc
      rw [hrl2] at hT8 hK8 hG8 hvv ⊢
      generalize hS8 : (fun k => S' k ∨ (encR (some ad, N2, cv)).ownBlock = some k) = S8 at hT8 hK8 hG8
      clear hS8 hrow8 hup hget hlast hvv hrl2
      have HT8 := Aside0.mk hT8
      have HGr8 := Aside0.mk (HGr.out.trans HKp.out.size hG8)
      have HKp8 := Aside0.mk (HKp.out.trans (show Grows S' S8 w from ⟨hG8.1, fun i hi => (hG8.2 i hi).imp id fun h => Nat.le_trans HKp.out.size h⟩) hK8)
      have HS8 := Aside0.mk (HS.out.step hG8 hK8)
      have HSF := Aside0.mk hsafe
      have HHC := Aside0.mk hhc
      have HLh := Aside0.mk hlh
      have k0 : w8.cell? ⟨gt, 0, none⟩ = some (toyV a0 a1 a2 a3 a4 a5) := (blk_cell hT8.obj 0).trans rfl
      clear hT8 hG8 hK8 hsafe hhc hlh HO8 HB8 HG8 HA8 HT HS HGr HKp HRW hc0 k1 k2
      have hw2 : IntKind.i64.wrap ((N2 : Int) - 2) = (q : Int) := by
        rw [w64_is, w64_in _ (by have := HLj.out; omega)]
        omega
      have hq1 : (q : Int) < (N2 : Int) := by omega
      have HN2 := Aside0.mk hN2
      have HQ := Aside0.mk hq
      clear hN2 hq
      have hq0 : (0 : Int) ≤ (q : Int) := by omega
      go_region_held3 (fun w' => w'.cell? ⟨gt, 0, none⟩ = some (toyV a0 a1 a2 a3 a4 a5) ∧ w'.cell? (ad.add q) = some (.slice Ah hsh.length ch) ∧ Below w8.heap.size w8 w')
        (((try dsimp only); (try go_split_ands); (repeat' apply And.intro) <;> first | (go_keep; done) | exact below_drew (Below.refl _ _) | (refine pw_cell_below hb ?_; assumption) | (refine below_then ?_ ?_ hb; assumption; exact Below.size (by assumption))))
        ((go_at_call 53; have hB0 := Aside0.mk (show Below w8.heap.size w8 _ by go_split_ands; assumption); refine (impl_toy_HashChildren.calls a0 a1 a2 a3 a4 a5 Ah ch hsh A' c' (sj j) (sj (j + 1)) _ (Kd.C_below HSF.out.bytes hB0.out) HLh.out (Kd.C_below HS8.out.bytes hB0.out) HSC.out HHC.out).mono ?_; rintro en w3 ⟨v3, rfl, hR3, hb⟩))
      obtain ⟨A3, c3, rfl, hl3, _⟩ := Kd.R_reads hR3
      have HT0 := HT8.out.step hB0.out
      have HS3 := Aside0.mk (Safe.new (S := S8) HT0.top hR3)
      have HT3 := Aside0.mk (HT0.step hb)
      have HK3 := Aside0.mk (HKp8.out.trans (Grows.refl _ _) (KeptS.below (S := S8) (below_then hB0.out hB0.out.size hb)))
      have HL3 := Aside0.mk hl3
      clear hR3 hl3 HT0 hb hB0 HT8 HS8 HSC HSF HLh HHC HKp8
      go_split_ands
      clear hw2 hq1 hq0
      have k0 : w3.cell? ⟨gt, 0, none⟩ = some (toyV a0 a1 a2 a3 a4 a5) := (blk_cell HT3.out.obj 0).trans rfl
      have k2 : w3.cell? ⟨gt, 2, none⟩ = some (.slice (some ⟨go, 0, none⟩) rows.length cap) := (blk_cell HT3.out.obj 2).trans rfl
      have HLL : (upR rows sj (j + 1)).length = rows.length := upR_len _ _ _
      obtain ⟨hcj, hfj⟩ := HT3.out.cells HLL j (by rw [← HLU]; exact hju)
      obtain ⟨hT9, hK9⟩ := HT3.out.put HLL j (some ad, N2, cv)
      have HT9 := Aside0.mk hT9
      have HK9 := Aside0.mk (HK3.out.trans (show Grows S8 S8 w from Grows.refl _ _) hK9)
      have HS9 := Aside0.mk (HS3.out.step (Grows.refl _ _) hK9)
      clear hT9 hK9 HK3 HS3
      have hj64 : ∀ z : Int, z = 1 → wrap64 ((j : Int) + z) = ((j + 1 : Nat) : Int) := fun z hz => by rw [hz, w64_in _ (by have := HM64.out; omega)]; omega
      go_wp2
      go_roundg (m - (j + 1))
      case measure =>
        clear hj64
        omega
      case rel =>
        have hv := hj64 1 rfl
        have hj2 : j + 1 + (m - (j + 1)) = m := by clear hv hj64; omega
        exact ⟨j + 1, A3, c3, _, S8, hj2, rfl, by first | rfl | exact congrArg (Value.int .i64) hv, HL3, HT9, HS9, HGr8, HK9⟩
    · obtain rfl : j = m := by omega
      clear hlt hjm
      have HJM : Aside0 (0 = 0) := ⟨rfl⟩
      have hb1 : (Go.bits .and .u64 ((n : Int) / 2 ^ min j 64) 1 == 1) = false := by rw [HBT.out j (Nat.le_refl _), decide_eq_false (by rw [HBM.out]; omega)]
      obtain ⟨Ao, cap, hvh, hco⟩ : ∃ Ao cap, vh = .slice Ao rows.length cap ∧ rows.length ≤ cap := by
        obtain ⟨A, c, e, hl, _⟩ := Kd.R_reads HT.out.outer
        rw [HT.out.lo, HLU] at e hl
        exact ⟨A, c, e, hl⟩
      subst hvh
      have t6 : decide ((rows.length : Int) < (j : Int)) = false := decide_eq_false (by have := HM.out; omega)
      have t6n : decide (rows.length < j) = false := decide_eq_false (by have := HM.out; omega)
      by_cases hjl : j = rows.length
      · have t8 : ((j : Int) == (rows.length : Int)) = true := beq_iff_eq.2 (by omega)
        have t8n : (j == rows.length) = true := beq_iff_eq.2 hjl
        have HJL := Aside0.mk hjl
        clear hjl
        have hou : kO.R 25 wr w0.heap.size (fun _ => True) (.slice Ao rows.length cap) rv' := HT.out.outer
        have HOU := Aside0.mk hou
        have HLV : Aside0 (rv'.length = rows.length) := ⟨HT.out.lv.trans HLU⟩
        clear hou
        obtain ⟨L1, hL1⟩ : ∃ L1, L1 = rows.length + 1 := ⟨_, rfl⟩
        have HL1 := Aside0.mk hL1
        have HLV1 : Aside0 ((rv' ++ [z0]).length = L1) := ⟨by rw [List.length_append, HLV.out, hL1]; rfl⟩
        clear hL1
        go_wp2_with (first
          | ((with_reducible refine gate_builtin (b := .append) (xs := #[.tmp 66, .tmp 67]) rfl ?_); at_builtin; refine Kd.R_append kO (w0 := w0) w0.heap.size rfl (.tmp 66) (.tmp 67) 141 25 (.slice none 0 0) 24 rfl Tryd.underlying141 infoRR rfl Nat.zero_lt_one (by omega) (.slice Ao rows.length cap) rv' z0 [.slice none 0 0] (fun _ => True) (fun _ => False) rfl rfl rfl (fun _ h => h.elim) (fun _ _ => trivial) HOU.out HT.out.below HT.out.below.size (by have := HLV.out; have := HRL.out; omega) ?_; intro v9 w9 ho hb hg hat; obtain ⟨Av9, cv9, rfl⟩ := Kd.R_slice ho; rw [HLV1.out] at ho hat ⊢; have HO9 := Aside0.mk ho; have HB9 := Aside0.mk hb; have HG9 := Aside0.mk hg; have HA9 := Aside0.mk hat; have hne9 : some gt ≠ (Value.slice Ao rows.length cap).ownBlock := (fun he => (HT.out.oown gt he.symm).1 rfl); have hob9 := (hg.block gt (HT.out.top _ HT.out.sobj) hne9).trans HT.out.obj; have hc9 : w9.cell? ⟨gt, 2, none⟩ = some (.slice Ao rows.length cap) := (blk_cell hob9 2).trans rfl; have hf9 : w9.frozen? ⟨gt, 2, none⟩ = false := blk_frozen hob9 2; clear ho hb hg hat hne9 hob9 k0 k1 k2))
        obtain ⟨hT1, hG1, hK1⟩ := HT.out.more HO9.out (fun k hk hne => HG9.out.block k hk hne) HG9.out.size HB9.out HA9.out
        clear hc9 hf9
        have hL1 := HL1.out
        have hlv1 := HLV1.out
        generalize (w9.setCell ⟨gt, 2, none⟩ (.slice Av9 L1 cv9)) = wq at hT1 hK1 ⊢
        generalize hS1 : (fun k => S' k ∨ (Value.slice Av9 L1 cv9).ownBlock = some k) = S1 at hT1 hK1 hG1
        clear hS1
        have hlen1 : (upR rows sj j ++ [[]]).length = L1 := by rw [List.length_append, HLU, hL1]; rfl
        obtain ⟨go, cap, hvh, hcap⟩ := hT1.form (by rw [hlen1]; omega)
        rw [hlen1] at hcap
        injection hvh with hv1 hv2 hv3
        clear hv2
        subst hv1 hv3
        generalize cv9 = cap at hT1 hcap
        have HT1 := Aside0.mk hT1
        have HS1 := Aside0.mk (HS.out.step hG1 hK1)
        have HGr1 := Aside0.mk (HGr.out.trans HKp.out.size hG1)
        have HKp1 := Aside0.mk (HKp.out.trans (show Grows S' S1 w from ⟨hG1.1, fun i hi => (hG1.2 i hi).imp id fun h => Nat.le_trans HKp.out.size h⟩) hK1)
        have hrv1 : (rv' ++ [z0]).getD j z0 = (none, ([] : List (List Int)).length, 0) := by rw [getD_snoc, if_pos (by rw [HJL.out, HLV.out])]; rfl
        have hrow1 := hT1.row j (by rw [hlen1, hL1]; have := HJL.out; omega)
        rw [hrv1, getD_snoc, if_pos (HJL.out.trans HLU.symm)] at hrow1
        have hfin : (upR rows sj j ++ [[]]).set j ([] ++ [sj j]) = upT rows sj j := by
          unfold upT
          rw [if_pos HJL.out, List.set_append, if_neg (by rw [HLU]; have := HJL.out; omega), HLU, show j - rows.length = 0 by have := HJL.out; omega]
          rfl
        have hjL : j < L1 := by have := HJL.out; omega
        have hlr : ([] : List (List Int)).length ≤ 100000 := by simp
        have hcr : ([] : List (List Int)).length ≤ 0 := by simp
        clear hT1 hG1 hK1 HT HS HGr HKp HO9 HB9 HG9 HA9 HOU
        have hrl := HRL.out
        have hL100 : L1 ≤ 101 := by omega
        clear hrl hL1 hlv1
        obtain ⟨Ar, cr, r, hrv1, hcr, hrow1, hfin, hlr⟩ : ∃ (Ar : Option Addr) (cr : Nat) (r : List (List Int)), (rv' ++ [z0]).getD j z0 = (Ar, r.length, cr) ∧ r.length ≤ cr ∧ Rows S1 wq w0.heap.size (.slice Ar r.length cr) r ∧ (upR rows sj j ++ [[]]).set j (r ++ [sj j]) = upT rows sj j ∧ r.length ≤ 100000 := ⟨none, 0, [], hrv1, hcr, hrow1, hfin, hlr⟩
        generalize (rv' ++ [z0]) = rv1 at HT1 hrv1
        generalize (upR rows sj j ++ [[]]) = rows1 at HT1 hfin hlen1
        (try clear hL1)
        (try clear hlv1)
        have HROW := Aside0.mk hrow1
        have HFIN := Aside0.mk hfin
        have HLR := Aside0.mk hlr
        have HLEN := Aside0.mk hlen1
        have HRV := Aside0.mk hrv1
        clear hrow1 hfin hlr hlen1 hrv1
        have hj0 : (0 : Int) ≤ (j : Int) := by omega
        have hj1 : (j : Int) < (L1 : Int) := by omega
        have HTz := Aside0.mk (HT1.out.step (below_drew (Below.refl wq.heap.size wq)))
        have HSz := Aside0.mk (HS1.out.below (below_drew (Below.refl wq.heap.size wq)))
        have HKz := Aside0.mk (HKp1.out.trans (Grows.refl _ _) (KeptS.below (S := S1) (below_drew (Below.refl wq.heap.size wq))))
        have HRz := Aside0.mk (HROW.out.below (below_drew (Below.refl wq.heap.size wq)))
        have hcz : wq.drew.cell? ⟨go, j, none⟩ = some (.slice Ar r.length cr) := by have h1 := (HTz.out.cells HLEN.out j hjL).1; rw [HRV.out] at h1; exact h1
        refine start_ (n := 17) (S := fun w' => w'.cell? ⟨gt, 2, none⟩ = some (.slice (some ⟨go, 0, none⟩) L1 cap) ∧ w'.cell? ⟨go, j, none⟩ = some (.slice Ar r.length cr)) (ds := [16]) #[false, false, false, false, false, false, false, false, false, false, false, false, false, false, false, false, false] (by kernel_rfl) rfl rfl ⟨(blk_cell HTz.out.obj 2).trans rfl, hcz⟩ (fun hHeld => ?_)
        generalize wq.drew = wz at HTz HSz HKz HRz hcz hHeld ⊢
        clear HT1 HS1 HKp1 HROW
        refine pure_ (i := 0) (N := some 71) (v := ?_) (a' := ?_) #[true, false, false, false, false, false, false, false, false, false, false, false, false, false, false, false, false] rfl rfl (by kernel_rfl) (fun _ _ _ h => h) (Or.inl ⟨by rfl, ?_⟩) ?_ ?_
        rotate_left
        · intro w'
          go_simp
          with_reducible rfl
        rotate_left
        · simp only [Act.put, List.setIfInBounds_toArray, List.set_cons_zero, List.set_cons_succ]
          rfl
        refine pure_ (i := 1) (N := some 72) (v := ?_) (a' := ?_) #[true, true, false, false, false, false, false, false, false, false, false, false, false, false, false, false, false] rfl rfl (by kernel_rfl) (fun _ _ _ h => h) (Or.inl ⟨by rfl, ?_⟩) ?_ ?_
        rotate_left
        · intro w'
          go_simp
          with_reducible rfl
        rotate_left
        · simp only [Act.put, List.setIfInBounds_toArray, List.set_cons_zero, List.set_cons_succ]
          rfl
        refine pure_ (i := 2) (N := some 73) (v := ?_) (a' := ?_) #[true, true, true, false, false, false, false, false, false, false, false, false, false, false, false, false, false] rfl rfl (by kernel_rfl) (fun _ _ _ h => h) (Or.inl ⟨by rfl, ?_⟩) ?_ ?_
        rotate_left
        · intro w'
          go_simp
          with_reducible rfl
        rotate_left
        · simp only [Act.put, List.setIfInBounds_toArray, List.set_cons_zero, List.set_cons_succ]
          rfl
        refine take_ (i := 3) (N := some 74) (v := ?_) (a' := ?_) #[true, true, true, true, false, false, false, false, false, false, false, false, false, false, false, false, false] rfl rfl (by kernel_rfl) (fun _ _ _ h => h) (Or.inl ⟨by rfl, ?_⟩) hHeld ?_ ?_
        rotate_left
        · rintro w' ⟨s0, s1⟩
          go_simp
          with_reducible rfl
        rotate_left
        · simp only [Act.put, List.setIfInBounds_toArray, List.set_cons_zero, List.set_cons_succ]
          rfl
        refine pure_ (i := 4) (N := some 75) (v := ?_) (a' := ?_) #[true, true, true, true, true, false, false, false, false, false, false, false, false, false, false, false, false] rfl rfl (by kernel_rfl) (fun _ _ _ h => h) (Or.inl ⟨by rfl, ?_⟩) ?_ ?_
        rotate_left
        · intro w'
          go_simp
          with_reducible rfl
        rotate_left
        · simp only [Act.put, List.setIfInBounds_toArray, List.set_cons_zero, List.set_cons_succ]
          rfl
        refine pure_ (i := 5) (N := some 76) (v := ?_) (a' := ?_) #[true, true, true, true, true, true, false, false, false, false, false, false, false, false, false, false, false] rfl rfl (by kernel_rfl) (fun _ _ _ h => h) (Or.inl ⟨by rfl, ?_⟩) ?_ ?_
        rotate_left
        · intro w'
          go_simp
          with_reducible rfl
        rotate_left
        · simp only [Act.put, List.setIfInBounds_toArray, List.set_cons_zero, List.set_cons_succ]
          rfl
        refine pure_ (i := 6) (N := some 77) (v := ?_) (a' := ?_) #[true, true, true, true, true, true, true, false, false, false, false, false, false, false, false, false, false] rfl rfl (by kernel_rfl) (fun _ _ _ h => h) (Or.inl ⟨by rfl, ?_⟩) ?_ ?_
        rotate_left
        · intro w'
          go_simp
          with_reducible rfl
        rotate_left
        · simp only [Act.put, List.setIfInBounds_toArray, List.set_cons_zero, List.set_cons_succ]
          rfl
        refine pure_ (i := 7) (N := some 78) (v := ?_) (a' := ?_) #[true, true, true, true, true, true, true, true, false, false, false, false, false, false, false, false, false] rfl rfl (by kernel_rfl) (fun _ _ _ h => h) (Or.inl ⟨by rfl, ?_⟩) ?_ ?_
        rotate_left
        · intro w'
          go_simp
          with_reducible rfl
        rotate_left
        · simp only [Act.put, List.setIfInBounds_toArray, List.set_cons_zero, List.set_cons_succ]
          rfl
        refine take_ (i := 8) (N := some 79) (v := ?_) (a' := ?_) #[true, true, true, true, true, true, true, true, true, false, false, false, false, false, false, false, false] rfl rfl (by kernel_rfl) (fun _ _ _ h => h) (Or.inl ⟨by rfl, ?_⟩) hHeld ?_ ?_
        rotate_left
        · rintro w' ⟨s0, s1⟩
          go_simp
          with_reducible rfl
        rotate_left
        · simp only [Act.put, List.setIfInBounds_toArray, List.set_cons_zero, List.set_cons_succ]
          rfl
        refine pure_ (i := 9) (N := some 80) (v := ?_) (a' := ?_) #[true, true, true, true, true, true, true, true, true, true, false, false, false, false, false, false, false] rfl rfl (by kernel_rfl) (fun _ _ _ h => h) (Or.inl ⟨by rfl, ?_⟩) ?_ ?_
        rotate_left
        · intro w'
          go_simp
          with_reducible rfl
        rotate_left
        · simp only [Act.put, List.setIfInBounds_toArray, List.set_cons_zero, List.set_cons_succ]
          rfl
        refine pure_ (i := 10) (N := some 81) (v := ?_) (a' := ?_) #[true, true, true, true, true, true, true, true, true, true, true, false, false, false, false, false, false] rfl rfl (by kernel_rfl) (fun _ _ _ h => h) (Or.inl ⟨by rfl, ?_⟩) ?_ ?_
        rotate_left
        · intro w'
          go_simp
          with_reducible rfl
        rotate_left
        · simp only [Act.put, List.setIfInBounds_toArray, List.set_cons_zero, List.set_cons_succ]
          rfl
        refine take_ (i := 11) (N := some 82) (v := ?_) (a' := ?_) #[true, true, true, true, true, true, true, true, true, true, true, true, false, false, false, false, false] rfl rfl (by kernel_rfl) (fun _ _ _ h => h) (Or.inl ⟨by rfl, ?_⟩) hHeld ?_ ?_
        rotate_left
        · rintro w' ⟨s0, s1⟩
          go_simp
          with_reducible rfl
        rotate_left
        · simp only [Act.put, List.setIfInBounds_toArray, List.set_cons_zero, List.set_cons_succ]
          rfl
        refine pure_ (i := 12) (N := some 83) (v := ?_) (a' := ?_) #[true, true, true, true, true, true, true, true, true, true, true, true, true, false, false, false, false] rfl rfl (by kernel_rfl) (fun _ _ _ h => h) (Or.inl ⟨by rfl, ?_⟩) ?_ ?_
        rotate_left
        · intro w'
          go_simp
          with_reducible rfl
        rotate_left
        · simp only [Act.put, List.setIfInBounds_toArray, List.set_cons_zero, List.set_cons_succ]
          rfl
        refine one_ (i := 13) (N := some 84) #[true, true, true, true, true, true, true, true, true, true, true, true, true, true, false, false, false] rfl rfl (by kernel_rfl) (by decide) (fun K hK => ?_)
        refine event_step rfl (v := .slice (some ⟨_, 0, none⟩) 1 1) (w1 := World.alloc _ (.cells #[.slice A' (sj j).length c'] 28)) (by first | (go_simp; done) | (go_simp; rfl) | (go_simp; exact ⟨rfl, rfl⟩)) ?_
        refine hK.out _ _ ⟨(blk_cell (blk_below HTz.out.obj (below_alloc (Below.refl _ _) _)) 2).trans rfl, pw_cell_below (below_alloc (Below.refl _ _) _) hcz⟩ (fun hHeld => ?_)
        clear hK K
        refine norm_ (a' := ?_) ?_ ?_
        rotate_left
        · show Act.put _ (some 84) _ = _
          simp only [Act.put, List.setIfInBounds_toArray, List.set_cons_zero, List.set_cons_succ]
          rfl
        refine one_ (i := 14) (N := some 85) #[true, true, true, true, true, true, true, true, true, true, true, true, true, true, true, false, false] rfl rfl (by kernel_rfl) (by decide) (fun K hK => ?_)
        refine Kd.R_append_step (kG S1 wz) (w0 := w0) w0.heap.size rfl (.tmp 82) (.tmp 84) 25 28 (.slice none 0 0) 24 rfl Tryd.underlying25 infoL rfl Nat.zero_lt_one (by omega) (.slice Ar r.length cr) r (sj j) [.slice A' (sj j).length c'] (fun _ => True) (fun _ => False) rfl rfl ⟨A', c', rfl, HSC.out, HSz.out⟩ (fun _ h => h.elim) (fun _ _ => trivial) HRz.out.row HTz.out.below HTz.out.below.size (by have := HLR.out; omega) ?_
        intro v1 w1 hR1 hB1 hG1 hA1
        have hjR : j < rows1.length := by rw [HLEN.out]; exact hjL
        have hRV : encR (rv1.getD j z0) = .slice Ar r.length cr := congrArg encR HRV.out
        obtain ⟨Av, cv, rfl⟩ := Kd.R_slice hR1
        obtain ⟨hT8, hG8, hK8⟩ := HTz.out.app j hjR (v2 := (Av, (r ++ [sj j]).length, cv)) hR1 (fun k hk hne => hG1.block k hk (by rw [hRV] at hne; exact hne)) hG1.size hB1 (by rw [hRV]; exact hA1)
        rw [HFIN.out] at hT8
        generalize hN2 : (r ++ [sj j]).length = N2 at hT8 hG8 hK8 ⊢
        generalize hS8 : (fun k => S1 k ∨ (encR (Av, N2, cv)).ownBlock = some k) = S8 at hT8 hK8 hG8
        clear hS8 hN2 hR1 hG1 hA1 hB1
        have hl8 : (upT rows sj j).length = L1 := by rw [← HFIN.out, List.length_set]; exact HLEN.out
        obtain ⟨hc8, hf8⟩ := hT8.cells hl8 j hjL
        rw [HRV.out] at hc8
        have hc8' : w1.cell? ⟨go, j, none⟩ = some (.slice Ar r.length cr) := hc8
        clear hc8
        refine hK.out _ _ ⟨(blk_cell hT8.obj 2).trans rfl, hc8'⟩ (fun hHeld => ?_)
        clear hK K
        refine norm_ (a' := ?_) ?_ ?_
        rotate_left
        · show Act.put _ (some 85) _ = _
          simp only [Act.put, List.setIfInBounds_toArray, List.set_cons_zero, List.set_cons_succ]
          rfl
        obtain ⟨hT9, hK9⟩ := hT8.put hl8 j (Av, N2, cv)
        refine pure_ (i := 15) (N := some 86) (v := ?_) (a' := ?_) #[true, true, true, true, true, true, true, true, true, true, true, true, true, true, true, true, false] rfl rfl (by kernel_rfl) (fun _ _ _ h => h) (Or.inl ⟨by rfl, ?_⟩) ?_ ?_
        rotate_left
        · intro w'
          go_simp
          with_reducible rfl
        rotate_left
        · simp only [Act.put, List.setIfInBounds_toArray, List.set_cons_zero, List.set_cons_succ]
          rfl
        clear hHeld
        refine last_ (i := 16) (N := none) #[true, true, true, true, true, true, true, true, true, true, true, true, true, true, true, true, true] rfl rfl (by kernel_rfl) (by simp) (fun K hK => ?_)
        refine store_step rfl (w1 := w1.setCell ⟨go, j, none⟩ (.slice Av N2 cv)) (by first | (go_simp; done) | (go_simp; rfl) | (go_simp; exact ⟨rfl, rfl⟩)) ?_
        refine hK.out _ _ ?_
        clear hK K
        refine norm_ (a' := ?_) ?_ ?_
        rotate_left
        · show Act.put _ none _ = _
          first | rfl | (simp only [Act.put]; rfl) | simp only [Act.put]
        refine done_ (by kernel_rfl) ?_
        have HT9 := Aside0.mk hT9
        have HK9 := Aside0.mk ((HKz.out.trans (show Grows S1 S8 w from ⟨hG8.1, fun i hi => (hG8.2 i hi).imp id fun h => Nat.le_trans HKz.out.size h⟩) hK8).trans (show Grows S8 S8 w from Grows.refl _ _) hK9)
        have HG9 := Aside0.mk (HGr1.out.trans HKz.out.size hG8)
        clear hT8 hT9 hK8 hK9 hG8 hc8' hf8 HTz HSz HKz HRz hcz
        generalize (w1.setCell ⟨go, j, none⟩ (.slice Av N2 cv)) = w9 at HT9 HK9 ⊢
        have k1 : w9.cell? ⟨gt, 1, none⟩ = some (.int .u64 (n : Int)) := (blk_cell HT9.out.obj 1).trans rfl
        have f1 : w9.frozen? ⟨gt, 1, none⟩ = false := blk_frozen HT9.out.obj 1
        have hw : ∀ z : Int, z = 1 → IntKind.u64.wrap ((n : Int) + z) = (n : Int) + 1 := fun z hz => by
          rw [hz]
          show ((n : Int) + 1) % 18446744073709551616 = _
          have := HN.out
          omega
        go_wp2
        obtain ⟨hT10, hK10⟩ := HT9.out.count ((n : Int) + 1)
        go_end0
        have hK11 := HK9.out.trans (show Grows S8 S8 w from Grows.refl _ _) hK10
        first | exact ⟨_, _, _, S8, rfl, hT10, HG9.out, hK11⟩ | exact ⟨_, _, _, S8, hT10, HG9.out, hK11⟩
      · have t8 : ((j : Int) == (rows.length : Int)) = false := beq_eq_false_iff_ne.2 (by omega)
        have t8n : (j == rows.length) = false := beq_eq_false_iff_ne.2 hjl
        have hjL : j < rows.length := by have := HM.out; omega
        have HJL := Aside0.mk hjl
        clear hjl
        go_wp2
        obtain ⟨go, cap', hvh, hcap⟩ := HT.out.form (by rw [HLU]; omega)
        rw [HLU] at hvh hcap
        injection hvh with hv1 hv2 hv3
        clear hv2
        subst hv1 hv3
        obtain ⟨Ar, cr, hrv1, hcr⟩ := HT.out.rowv j (by rw [HLU]; exact hjL)
        have hrow1 := HT.out.row j (by rw [HLU]; exact hjL)
        rw [hrv1] at hrow1
        rw [upR_hi rows sj j j (Nat.le_refl _)] at hrv1 hcr hrow1
        have hfin : (upR rows sj j).set j (rows.getD j [] ++ [sj j]) = upT rows sj j := by
          unfold upT
          rw [if_neg HJL.out]
        have hlr := HLN.out j hjL
        have hlen1 := HLU
        have HT1 := HT
        have HS1 := HS
        have HGr1 := HGr
        have HKp1 := HKp
        have hL100 : rows.length ≤ 101 := by have := HRL.out; omega
        clear HT HS HGr HKp k0 k1 k2
        generalize rv' = rv1 at HT1 hrv1
        generalize (upR rows sj j) = rows1 at HT1 hfin hlen1
        generalize rows.getD j [] = r at hrv1 hcr hrow1 hfin hlr
        generalize S' = S1 at HT1 HS1 HGr1 HKp1 hrow1
        generalize wr = wq at HT1 HS1 HKp1 hrow1 ⊢
        generalize rows.length = L1 at HT1 hjL hlen1 hcap hL100 ⊢
        have HROW := Aside0.mk hrow1
        have HFIN := Aside0.mk hfin
        have HLR := Aside0.mk hlr
        have HLEN := Aside0.mk hlen1
        have HRV := Aside0.mk hrv1
        clear hrow1 hfin hlr hlen1 hrv1
        have hj0 : (0 : Int) ≤ (j : Int) := by omega
        have hj1 : (j : Int) < (L1 : Int) := by omega
        have HTz := Aside0.mk (HT1.out.step (below_drew (Below.refl wq.heap.size wq)))
        have HSz := Aside0.mk (HS1.out.below (below_drew (Below.refl wq.heap.size wq)))
        have HKz := Aside0.mk (HKp1.out.trans (Grows.refl _ _) (KeptS.below (S := S1) (below_drew (Below.refl wq.heap.size wq))))
        have HRz := Aside0.mk (HROW.out.below (below_drew (Below.refl wq.heap.size wq)))
        have hcz : wq.drew.cell? ⟨go, j, none⟩ = some (.slice Ar r.length cr) := by have h1 := (HTz.out.cells HLEN.out j hjL).1; rw [HRV.out] at h1; exact h1
        refine start_ (n := 17) (S := fun w' => w'.cell? ⟨gt, 2, none⟩ = some (.slice (some ⟨go, 0, none⟩) L1 cap) ∧ w'.cell? ⟨go, j, none⟩ = some (.slice Ar r.length cr)) (ds := [16]) #[false, false, false, false, false, false, false, false, false, false, false, false, false, false, false, false, false] (by kernel_rfl) rfl rfl ⟨(blk_cell HTz.out.obj 2).trans rfl, hcz⟩ (fun hHeld => ?_)
        generalize wq.drew = wz at HTz HSz HKz HRz hcz hHeld ⊢
        clear HT1 HS1 HKp1 HROW
        refine pure_ (i := 0) (N := some 71) (v := ?_) (a' := ?_) #[true, false, false, false, false, false, false, false, false, false, false, false, false, false, false, false, false] rfl rfl (by kernel_rfl) (fun _ _ _ h => h) (Or.inl ⟨by rfl, ?_⟩) ?_ ?_
        rotate_left
        · intro w'
          go_simp
          with_reducible rfl
        rotate_left
        · simp only [Act.put, List.setIfInBounds_toArray, List.set_cons_zero, List.set_cons_succ]
          rfl
        refine pure_ (i := 1) (N := some 72) (v := ?_) (a' := ?_) #[true, true, false, false, false, false, false, false, false, false, false, false, false, false, false, false, false] rfl rfl (by kernel_rfl) (fun _ _ _ h => h) (Or.inl ⟨by rfl, ?_⟩) ?_ ?_
        rotate_left
        · intro w'
          go_simp
          with_reducible rfl
        rotate_left
        · simp only [Act.put, List.setIfInBounds_toArray, List.set_cons_zero, List.set_cons_succ]
          rfl
        refine pure_ (i := 2) (N := some 73) (v := ?_) (a' := ?_) #[true, true, true, false, false, false, false, false, false, false, false, false, false, false, false, false, false] rfl rfl (by kernel_rfl) (fun _ _ _ h => h) (Or.inl ⟨by rfl, ?_⟩) ?_ ?_
        rotate_left
        · intro w'
          go_simp
          with_reducible rfl
        rotate_left
        · simp only [Act.put, List.setIfInBounds_toArray, List.set_cons_zero, List.set_cons_succ]
          rfl
        refine take_ (i := 3) (N := some 74) (v := ?_) (a' := ?_) #[true, true, true, true, false, false, false, false, false, false, false, false, false, false, false, false, false] rfl rfl (by kernel_rfl) (fun _ _ _ h => h) (Or.inl ⟨by rfl, ?_⟩) hHeld ?_ ?_
        rotate_left
        · rintro w' ⟨s0, s1⟩
          go_simp
          with_reducible rfl
        rotate_left
        · simp only [Act.put, List.setIfInBounds_toArray, List.set_cons_zero, List.set_cons_succ]
          rfl
        refine pure_ (i := 4) (N := some 75) (v := ?_) (a' := ?_) #[true, true, true, true, true, false, false, false, false, false, false, false, false, false, false, false, false] rfl rfl (by kernel_rfl) (fun _ _ _ h => h) (Or.inl ⟨by rfl, ?_⟩) ?_ ?_
        rotate_left
        · intro w'
          go_simp
          with_reducible rfl
        rotate_left
        · simp only [Act.put, List.setIfInBounds_toArray, List.set_cons_zero, List.set_cons_succ]
          rfl
        refine pure_ (i := 5) (N := some 76) (v := ?_) (a' := ?_) #[true, true, true, true, true, true, false, false, false, false, false, false, false, false, false, false, false] rfl rfl (by kernel_rfl) (fun _ _ _ h => h) (Or.inl ⟨by rfl, ?_⟩) ?_ ?_
        rotate_left
        · intro w'
          go_simp
          with_reducible rfl
        rotate_left
        · simp only [Act.put, List.setIfInBounds_toArray, List.set_cons_zero, List.set_cons_succ]
          rfl
        refine pure_ (i := 6) (N := some 77) (v := ?_) (a' := ?_) #[true, true, true, true, true, true, true, false, false, false, false, false, false, false, false, false, false] rfl rfl (by kernel_rfl) (fun _ _ _ h => h) (Or.inl ⟨by rfl, ?_⟩) ?_ ?_
        rotate_left
        · intro w'
          go_simp
          with_reducible rfl
        rotate_left
        · simp only [Act.put, List.setIfInBounds_toArray, List.set_cons_zero, List.set_cons_succ]
          rfl
        refine pure_ (i := 7) (N := some 78) (v := ?_) (a' := ?_) #[true, true, true, true, true, true, true, true, false, false, false, false, false, false, false, false, false] rfl rfl (by kernel_rfl) (fun _ _ _ h => h) (Or.inl ⟨by rfl, ?_⟩) ?_ ?_
        rotate_left
        · intro w'
          go_simp
          with_reducible rfl
        rotate_left
        · simp only [Act.put, List.setIfInBounds_toArray, List.set_cons_zero, List.set_cons_succ]
          rfl
        refine take_ (i := 8) (N := some 79) (v := ?_) (a' := ?_) #[true, true, true, true, true, true, true, true, true, false, false, false, false, false, false, false, false] rfl rfl (by kernel_rfl) (fun _ _ _ h => h) (Or.inl ⟨by rfl, ?_⟩) hHeld ?_ ?_
        rotate_left
        · rintro w' ⟨s0, s1⟩
          go_simp
          with_reducible rfl
        rotate_left
        · simp only [Act.put, List.setIfInBounds_toArray, List.set_cons_zero, List.set_cons_succ]
          rfl
        refine pure_ (i := 9) (N := some 80) (v := ?_) (a' := ?_) #[true, true, true, true, true, true, true, true, true, true, false, false, false, false, false, false, false] rfl rfl (by kernel_rfl) (fun _ _ _ h => h) (Or.inl ⟨by rfl, ?_⟩) ?_ ?_
        rotate_left
        · intro w'
          go_simp
          with_reducible rfl
        rotate_left
        · simp only [Act.put, List.setIfInBounds_toArray, List.set_cons_zero, List.set_cons_succ]
          rfl
        refine pure_ (i := 10) (N := some 81) (v := ?_) (a' := ?_) #[true, true, true, true, true, true, true, true, true, true, true, false, false, false, false, false, false] rfl rfl (by kernel_rfl) (fun _ _ _ h => h) (Or.inl ⟨by rfl, ?_⟩) ?_ ?_
        rotate_left
        · intro w'
          go_simp
          with_reducible rfl
        rotate_left
        · simp only [Act.put, List.setIfInBounds_toArray, List.set_cons_zero, List.set_cons_succ]
          rfl
        refine take_ (i := 11) (N := some 82) (v := ?_) (a' := ?_) #[true, true, true, true, true, true, true, true, true, true, true, true, false, false, false, false, false] rfl rfl (by kernel_rfl) (fun _ _ _ h => h) (Or.inl ⟨by rfl, ?_⟩) hHeld ?_ ?_
        rotate_left
        · rintro w' ⟨s0, s1⟩
          go_simp
          with_reducible rfl
        rotate_left
        · simp only [Act.put, List.setIfInBounds_toArray, List.set_cons_zero, List.set_cons_succ]
          rfl
        refine pure_ (i := 12) (N := some 83) (v := ?_) (a' := ?_) #[true, true, true, true, true, true, true, true, true, true, true, true, true, false, false, false, false] rfl rfl (by kernel_rfl) (fun _ _ _ h => h) (Or.inl ⟨by rfl, ?_⟩) ?_ ?_
        rotate_left
        · intro w'
          go_simp
          with_reducible rfl
        rotate_left
        · simp only [Act.put, List.setIfInBounds_toArray, List.set_cons_zero, List.set_cons_succ]
          rfl
        refine one_ (i := 13) (N := some 84) #[true, true, true, true, true, true, true, true, true, true, true, true, true, true, false, false, false] rfl rfl (by kernel_rfl) (by decide) (fun K hK => ?_)
        refine event_step rfl (v := .slice (some ⟨_, 0, none⟩) 1 1) (w1 := World.alloc _ (.cells #[.slice A' (sj j).length c'] 28)) (by first | (go_simp; done) | (go_simp; rfl) | (go_simp; exact ⟨rfl, rfl⟩)) ?_
        refine hK.out _ _ ⟨(blk_cell (blk_below HTz.out.obj (below_alloc (Below.refl _ _) _)) 2).trans rfl, pw_cell_below (below_alloc (Below.refl _ _) _) hcz⟩ (fun hHeld => ?_)
        clear hK K
        refine norm_ (a' := ?_) ?_ ?_
        rotate_left
        · show Act.put _ (some 84) _ = _
          simp only [Act.put, List.setIfInBounds_toArray, List.set_cons_zero, List.set_cons_succ]
          rfl
        refine one_ (i := 14) (N := some 85) #[true, true, true, true, true, true, true, true, true, true, true, true, true, true, true, false, false] rfl rfl (by kernel_rfl) (by decide) (fun K hK => ?_)
        refine Kd.R_append_step (kG S1 wz) (w0 := w0) w0.heap.size rfl (.tmp 82) (.tmp 84) 25 28 (.slice none 0 0) 24 rfl Tryd.underlying25 infoL rfl Nat.zero_lt_one (by omega) (.slice Ar r.length cr) r (sj j) [.slice A' (sj j).length c'] (fun _ => True) (fun _ => False) rfl rfl ⟨A', c', rfl, HSC.out, HSz.out⟩ (fun _ h => h.elim) (fun _ _ => trivial) HRz.out.row HTz.out.below HTz.out.below.size (by have := HLR.out; omega) ?_
        intro v1 w1 hR1 hB1 hG1 hA1
        have hjR : j < rows1.length := by rw [HLEN.out]; exact hjL
        have hRV : encR (rv1.getD j z0) = .slice Ar r.length cr := congrArg encR HRV.out
        obtain ⟨Av, cv, rfl⟩ := Kd.R_slice hR1
        obtain ⟨hT8, hG8, hK8⟩ := HTz.out.app j hjR (v2 := (Av, (r ++ [sj j]).length, cv)) hR1 (fun k hk hne => hG1.block k hk (by rw [hRV] at hne; exact hne)) hG1.size hB1 (by rw [hRV]; exact hA1)
        rw [HFIN.out] at hT8
        generalize hN2 : (r ++ [sj j]).length = N2 at hT8 hG8 hK8 ⊢
        generalize hS8 : (fun k => S1 k ∨ (encR (Av, N2, cv)).ownBlock = some k) = S8 at hT8 hK8 hG8
        clear hS8 hN2 hR1 hG1 hA1 hB1
        have hl8 : (upT rows sj j).length = L1 := by rw [← HFIN.out, List.length_set]; exact HLEN.out
        obtain ⟨hc8, hf8⟩ := hT8.cells hl8 j hjL
        rw [HRV.out] at hc8
        have hc8' : w1.cell? ⟨go, j, none⟩ = some (.slice Ar r.length cr) := hc8
        clear hc8
        refine hK.out _ _ ⟨(blk_cell hT8.obj 2).trans rfl, hc8'⟩ (fun hHeld => ?_)
        clear hK K
        refine norm_ (a' := ?_) ?_ ?_
        rotate_left
        · show Act.put _ (some 85) _ = _
          simp only [Act.put, List.setIfInBounds_toArray, List.set_cons_zero, List.set_cons_succ]
          rfl
        obtain ⟨hT9, hK9⟩ := hT8.put hl8 j (Av, N2, cv)
        refine pure_ (i := 15) (N := some 86) (v := ?_) (a' := ?_) #[true, true, true, true, true, true, true, true, true, true, true, true, true, true, true, true, false] rfl rfl (by kernel_rfl) (fun _ _ _ h => h) (Or.inl ⟨by rfl, ?_⟩) ?_ ?_
        rotate_left
        · intro w'
          go_simp
          with_reducible rfl
        rotate_left
        · simp only [Act.put, List.setIfInBounds_toArray, List.set_cons_zero, List.set_cons_succ]
          rfl
        clear hHeld
        refine last_ (i := 16) (N := none) #[true, true, true, true, true, true, true, true, true, true, true, true, true, true, true, true, true] rfl rfl (by kernel_rfl) (by simp) (fun K hK => ?_)
        refine store_step rfl (w1 := w1.setCell ⟨go, j, none⟩ (.slice Av N2 cv)) (by first | (go_simp; done) | (go_simp; rfl) | (go_simp; exact ⟨rfl, rfl⟩)) ?_
        refine hK.out _ _ ?_
        clear hK K
        refine norm_ (a' := ?_) ?_ ?_
        rotate_left
        · show Act.put _ none _ = _
          first | rfl | (simp only [Act.put]; rfl) | simp only [Act.put]
        refine done_ (by kernel_rfl) ?_
        have HT9 := Aside0.mk hT9
        have HK9 := Aside0.mk ((HKz.out.trans (show Grows S1 S8 w from ⟨hG8.1, fun i hi => (hG8.2 i hi).imp id fun h => Nat.le_trans HKz.out.size h⟩) hK8).trans (show Grows S8 S8 w from Grows.refl _ _) hK9)
        have HG9 := Aside0.mk (HGr1.out.trans HKz.out.size hG8)
        clear hT8 hT9 hK8 hK9 hG8 hc8' hf8 HTz HSz HKz HRz hcz
        generalize (w1.setCell ⟨go, j, none⟩ (.slice Av N2 cv)) = w9 at HT9 HK9 ⊢
        have k1 : w9.cell? ⟨gt, 1, none⟩ = some (.int .u64 (n : Int)) := (blk_cell HT9.out.obj 1).trans rfl
        have f1 : w9.frozen? ⟨gt, 1, none⟩ = false := blk_frozen HT9.out.obj 1
        have hw : ∀ z : Int, z = 1 → IntKind.u64.wrap ((n : Int) + z) = (n : Int) + 1 := fun z hz => by
          rw [hz]
          show ((n : Int) + 1) % 18446744073709551616 = _
          have := HN.out
          omega
        go_wp2
        obtain ⟨hT10, hK10⟩ := HT9.out.count ((n : Int) + 1)
        go_end0
        have hK11 := HK9.out.trans (show Grows S8 S8 w from Grows.refl _ _) hK10
        first | exact ⟨_, _, _, S8, rfl, hT10, HG9.out, hK11⟩ | exact ⟨_, _, _, S8, hT10, HG9.out, hK11⟩
end Go.Proofs.YtfhcpniibiobgaaDoor.Qf
namespace Go.Proofs.YtfhcpniibiobgaaDoor.Qf
open Go.RowKit Go.Proofs.YtfhcpniibiobgaaDoorW.PrintWords Go.Proofs.YtfhcpniibiobgaaDoorW.PrintLast Go.Proofs.YtfhcpniibiobgaaDoorW.PrintMore
open Hs (CB CL at_L at_B infoB infoL R_of_blk)

set_option maxHeartbeats 1000000 in
set_option maxRecDepth 100000 in
theorem tNew_calls (T : Value) (w : World) :
    Calls Tryd.prog 46 #[.iface 90 T] w fun en w' => en = .returned (.pointer (some ⟨w.heap.size, 0, none⟩)) ∧ w' = w.alloc (.cells #[.iface 90 T, .int .u64 0, .slice none 0 0] 143) := by
  go_enter Tryd.func46, Tryd.ntmps46
  go_wp2
  go_ret
  exact ⟨rfl, rfl⟩
/-- The new tree is empty. -/
theorem TSt.init (T : Value) (w0 w : World) (hb : Below w0.heap.size w0 w) : TSt T w0 w.heap.size (fun k => k = w.heap.size) (w.alloc (.cells #[T, .int .u64 0, .slice none 0 0] 143)) 0 (.slice none 0 0) [] [] [] where
  below := below_step hb (below_alloc (Below.refl _ _) _)
  base := fun k hk => by rw [hk]; exact hb.size
  top := fun k hk => by rw [hk]; simp
  obj := heap_alloc_new _ _
  sobj := rfl
  outer := Kd.R_nil _ _ _ _ _
  sown := fun k hk => by simp [Value.ownBlock] at hk
  lo := rfl
  lv := rfl
  row := fun i hi => by simp at hi
  apart := fun i j hi => by simp at hi
end Go.Proofs.YtfhcpniibiobgaaDoor.Qf
namespace Go.Proofs.YtfhcpniibiobgaaDoor.Qf
open Go.RowKit Go.Proofs.YtfhcpniibiobgaaDoorW.PrintWords Go.Proofs.YtfhcpniibiobgaaDoorW.PrintLast Go.Proofs.YtfhcpniibiobgaaDoorW.PrintMore
open Hs (CB CL at_L at_B infoB infoL R_of_blk)

/-- The leaves' row: its blocks are none that change. -/
structure LRow (S : Nat → Prop) (w : World) (A : Option Addr) (M : List (List Int)) : Prop where
  get : ∀ j, j < M.length → ∃ ad A0 c0, A = some ad ∧ w.cell? (ad.add j) = some (.slice A0 (M.getD j []).length c0) ∧ (M.getD j []).length ≤ c0 ∧ Safe S w A0 (M.getD j []) ∧ ad.block < w.heap.size ∧ ¬ S ad.block
theorem LRow.step {S S' : Nat → Prop} {w w' : World} {A : Option Addr} {M : List (List Int)} (h : LRow S w A M) (g : Grows S S' w) (k : KeptS S' w w') : LRow S' w' A M where
  get := fun j hj => by
    obtain ⟨ad, A0, c0, e1, e2, e3, e4, e5, e6⟩ := h.get j hj
    have hn : ¬ S' ad.block := fun hs => by
      rcases g.2 _ hs with h1 | h1
      · exact e6 h1
      · omega
    refine ⟨ad, A0, c0, e1, ?_, e3, e4.step g k, Nat.lt_of_lt_of_le e5 k.size, hn⟩
    rw [← e2]
    unfold World.cell?
    rw [show (ad.add j).block = ad.block by unfold Addr.add; split <;> rfl, k.block _ e5 hn]
theorem LRow.new {S : Nat → Prop} {w w' : World} {v : Value} {M : List (List Int)} (hS : ∀ k, S k → k < w.heap.size) (h : Kd.S (Kd.slice 5 (Kd.int .u8)) 28 w' w.heap.size (fun _ => True) v M) : ∃ A c, v = .slice A M.length c ∧ M.length ≤ c ∧ LRow S w' A M := by
  have hR := Kd.S_R h
  obtain ⟨A, c, e, hl, hr⟩ := OwnRow.reads hR.2
  have hC : (kG S w').C w' A M.length M := hr.imp_ (Below.refl _ _) fun x cs hp => by
    obtain ⟨u, ecs, hu⟩ := hp
    obtain ⟨A', c', e', hl', _⟩ := Kd.R_reads hu
    subst e'
    exact ⟨A', c', ecs, hl', Safe.new hS (Kd.R_mono hu (fun _ _ => trivial))⟩
  refine ⟨A, c, e, hl, ⟨fun j hj => ?_⟩⟩
  obtain ⟨ad, cs, ea, _, hK, hc0⟩ := Kd.C_get hC ([] : List Int) (j : Int) (by omega) (by omega)
  simp only [Int.toNat_natCast] at hK hc0
  have hc : ∀ i u, cs[i]? = some u → w'.cell? (ad.add (j * 1 + i)) = some u := hc0
  obtain ⟨A0, c0, rfl, l0, g0⟩ := hK
  subst ea e
  have hb : w.heap.size ≤ ad.block := Kd.R_base hR _ rfl
  exact ⟨ad, A0, c0, rfl, by have hq := hc 0 _ rfl; rwa [Nat.mul_one, Nat.add_zero] at hq, l0, g0, Kd.R_lt hR _ rfl, fun hs => by have := hS _ hs; omega⟩


/-- What one leaf more makes of the rows. -/
def TStep (a0 a1 a2 a3 a4 a5 : Int) (n : Nat) (rows : List (List (List Int))) (s : List Int) (rows' : List (List (List Int))) : Prop :=
  ∃ (m : Nat) (sj : Nat → List Int), sj 0 = s ∧ m ≤ rows.length ∧ rows.length ≤ 100 ∧ m < 64 ∧ (∀ i, i < rows.length → (rows.getD i []).length ≤ 100000) ∧ (∀ i, i < m → n / 2 ^ i % 2 = 1) ∧ n / 2 ^ m % 2 = 0 ∧ (∀ i, i < m → 0 < (rows.getD i []).length) ∧ (∀ i, i < m → impl_toy_HashChildren.f a0 a1 a2 a3 a4 a5 ((rows.getD i []).getD ((rows.getD i []).length - 1) []) (sj i) = some (sj (i + 1))) ∧ rows' = upT rows sj m
theorem TStep.calls {a0 a1 a2 a3 a4 a5 : Int} {n : Nat} {rows rows' : List (List (List Int))} {s : List Int} (ht : TStep a0 a1 a2 a3 a4 a5 n rows s rows') {w0 : World} {gt : Nat} {S : Nat → Prop} {w : World} {vh : Value} {rv : List RV} (As : Option Addr) (cs : Nat) (h : TSt (toyV a0 a1 a2 a3 a4 a5) w0 gt S w (n : Int) vh rv rv rows) (hs : Safe S w As s) (hsc : s.length ≤ cs) (hn : n + 1 < 18446744073709551616) :
    Calls Tryd.prog 84 #[.pointer (some ⟨gt, 0, none⟩), .slice As s.length cs] w fun en w' => ∃ v0 vh' rv' S', en = .returned v0 ∧ TSt (toyV a0 a1 a2 a3 a4 a5) w0 gt S' w' ((n : Int) + 1) vh' rv' rv' rows' ∧ Grows S S' w ∧ KeptS S' w w' := by
  obtain ⟨m, sj, rfl, h1, h2, h3, h4, h5, h6, h7, h8, rfl⟩ := ht
  exact tAppend_calls a0 a1 a2 a3 a4 a5 w0 gt S w n vh rv rows As cs sj m h hs hsc hn h1 h2 h3 h4 h5 h6 h7 h8
set_option maxHeartbeats 2000000 in
set_option maxRecDepth 100000 in
theorem tHashes_calls (a0 a1 a2 a3 a4 a5 : Int) (w0 : World) (gt : Nat) (S : Nat → Prop) (w : World) (vh : Value) (rv : List RV) (Am : Option Addr) (cm : Nat) (M : List (List Int)) (rs : Nat → List (List (List Int)))
    (h : TSt (toyV a0 a1 a2 a3 a4 a5) w0 gt S w 0 vh rv rv (rs 0)) (hM : LRow S w Am M) (hMl : M.length ≤ 300) (hst : ∀ j, j < M.length → TStep a0 a1 a2 a3 a4 a5 j (rs j) (M.getD j []) (rs (j + 1))) :
    Calls Tryd.prog 72 #[.pointer (some ⟨gt, 0, none⟩), .slice Am M.length cm] w fun en w' => ∃ v0 vh' rv' S', en = .returned v0 ∧ TSt (toyV a0 a1 a2 a3 a4 a5) w0 gt S' w' (M.length : Int) vh' rv' rv' (rs M.length) ∧ Grows S S' w ∧ KeptS S' w w' := by
  have HT := Aside0.mk h
  have HLR := Aside0.mk hM
  have HST := Aside0.mk hst
  have HML := Aside0.mk hMl
  clear h hM hst hMl
  go_enter Tryd.func72, Tryd.ntmps72
  go_wp2
  (try simp only [Act.put, List.setIfInBounds_toArray, List.set_cons_zero, List.set_cons_succ])
  go_loopg [8] M.length (fun kq v8 wr => ∃ (j : Nat) (vh' : Value) (rv' : List RV) (S' : Nat → Prop), j + kq = M.length ∧ v8 = .int .i64 (j : Nat) ∧ Aside0 (TSt (toyV a0 a1 a2 a3 a4 a5) w0 gt S' wr (j : Int) vh' rv' rv' (rs j)) ∧ Aside0 (LRow S' wr Am M) ∧ Aside0 (Grows S S' w) ∧ Aside0 (KeptS S' w wr))
  case atStart => exact ⟨0, vh, rv, S, by omega, rfl, HT, HLR, ⟨Grows.refl _ _⟩, ⟨KeptS.refl _ _⟩⟩
  case round =>
    clear HT HLR
    obtain ⟨j, vh', rv', S', hj, rfl, HT, HLR, HGr, HKp⟩ := hrel
    rename World => wr
    by_cases hlt : j < M.length
    · obtain ⟨ad, A0, c0, ead, hx, hxl, hsf, _, _⟩ := HLR.out.get j hlt
      subst ead
      have HSTj := Aside0.mk (HST.out j hlt)
      generalize M.getD j [] = x at hx hxl hsf HSTj
      have HSF := Aside0.mk hsf
      have HXL := Aside0.mk hxl
      clear hsf hxl
      have hj0 : (0 : Int) ≤ (j : Int) := by omega
      have hj1 : (j : Int) < (M.length : Int) := by omega
      have k0 : wr.cell? ⟨gt, 0, none⟩ = some (toyV a0 a1 a2 a3 a4 a5) := (blk_cell HT.out.obj 0).trans rfl
      have HJL : Aside0 (j < M.length) := ⟨hlt⟩
      go_wp2_with (first
        | (go_at_call 84; (with_reducible refine (HSTj.out.calls A0 c0 HT.out HSF.out HXL.out (by have := HML.out; have := HJL.out; omega)).mono ?_); rintro en w6 ⟨v6, vh6, rv6, S6, rfl, hT6, hG6, hK6⟩; have HT6 := Aside0.mk hT6; have HG6 := Aside0.mk hG6; have HK6 := Aside0.mk hK6; clear hT6 hG6 hK6))
      have hj64 : ∀ z : Int, z = 1 → wrap64 ((j : Int) + z) = ((j + 1 : Nat) : Int) := fun z hz => by rw [hz, w64_in _ (by have := HML.out; omega)]; omega
      have hG7 : Grows S' S6 w := ⟨HG6.out.1, fun i hi => (HG6.out.2 i hi).imp id fun h => Nat.le_trans HKp.out.size h⟩
      have HK7 := Aside0.mk (HKp.out.trans hG7 HK6.out)
      have HG7 := Aside0.mk (HGr.out.trans (Nat.le_refl _) hG7)
      have HLR7 := Aside0.mk (HLR.out.step HG6.out HK6.out)
      clear hG7
      go_roundg (M.length - (j + 1))
      case measure =>
        clear hj64
        omega
      case rel =>
        have hv := hj64 1 rfl
        have hj2 : j + 1 + (M.length - (j + 1)) = M.length := by clear hv hj64; omega
        exact ⟨j + 1, vh6, rv6, S6, hj2, by first | rfl | exact congrArg (Value.int .i64) hv, ⟨by have h1 := HT6.out; rwa [show ((j : Int) + 1) = ((j + 1 : Nat) : Int) by omega] at h1⟩, HLR7, HG7, HK7⟩
    · obtain rfl : j = M.length := by omega
      go_wp2
      go_end0
      first | exact ⟨_, _, _, S', rfl, HT.out, HGr.out, HKp.out⟩ | exact ⟨_, _, _, S', HT.out, HGr.out, HKp.out⟩
end Go.Proofs.YtfhcpniibiobgaaDoor.Qf
namespace Go.Proofs.YtfhcpniibiobgaaDoor.Qf
open Go.RowKit Go.Proofs.YtfhcpniibiobgaaDoorW.PrintWords Go.Proofs.YtfhcpniibiobgaaDoorW.PrintLast Go.Proofs.YtfhcpniibiobgaaDoorW.PrintMore
open Hs (CB CL at_L at_B infoB infoL R_of_blk)

/-- The hash of a node. -/
abbrev nodeF (rows : List (List (List Int))) (x : S108) : List Int := (rows.getD x.f0.toNat []).getD x.f1.toNat []
/-- Hashes in a row of its own, block gr; their bytes lie elsewhere. -/
structure HRow (w0 : World) (gr cap : Nat) (w : World) (hv : List RV) (L : List (List Int)) : Prop where
  own : kO.R 28 w w0.heap.size (fun _ => True) (.slice (some ⟨gr, 0, none⟩) L.length cap) hv
  len : hv.length = L.length
  el : ∀ i, i < L.length → ∃ A c, hv.getD i z0 = (A, (L.getD i []).length, c) ∧ (L.getD i []).length ≤ c ∧ Safe (fun k => k = gr) w A (L.getD i [])
theorem HRow.step {w0 : World} {gr cap : Nat} {w w' : World} {hv : List RV} {L : List (List Int)} (h : HRow w0 gr cap w hv L) (hb : Below w.heap.size w w') : HRow w0 gr cap w' hv L :=
  ⟨Kd.R_below h.own hb, h.len, fun i hi => by
    obtain ⟨A, c, e1, e2, e3⟩ := h.el i hi
    exact ⟨A, c, e1, e2, e3.below hb⟩⟩
/-- An element, read. -/
theorem HRow.at {w0 : World} {gr cap : Nat} {w : World} {hv : List RV} {L : List (List Int)} (h : HRow w0 gr cap w hv L) (i : Nat) (hi : i < L.length) : ∃ A c, w.cell? ⟨gr, i, none⟩ = some (.slice A (L.getD i []).length c) ∧ (L.getD i []).length ≤ c ∧ Safe (fun k => k = gr) w A (L.getD i []) := by
  obtain ⟨A, c, e1, e2, e3⟩ := h.el i hi
  have hcs := (Kd.R_celln z0 h.own (i : Int) (by omega) (by omega)).1
  rw [Int.toNat_natCast] at hcs
  have e4 : rdOf z0 hv (i : Int) = (A, (L.getD i []).length, c) := by
    show hv.getD (i : Int).toNat z0 = _
    rw [Int.toNat_natCast]
    exact e1
  rw [e4] at hcs
  exact ⟨A, c, hcs, e2, e3⟩
/-- An element, put. -/
theorem HRow.put {w0 : World} {gr cap : Nat} {w : World} {hv : List RV} {L : List (List Int)} (h : HRow w0 gr cap w hv L) (i : Nat) (hi : i < L.length) {A : Option Addr} {s : List Int} {c : Nat} (hc : s.length ≤ c) (hs : Safe (fun k => k = gr) w A s) : HRow w0 gr cap (w.setCell ⟨gr, i, none⟩ (.slice A s.length c)) (hv.set i ((A, s.length, c) : RV)) (L.set i s) := by
  have hput := Kd.R_putn h.own (i : Int) ((A, s.length, c) : RV)
  rw [Int.toNat_natCast] at hput
  have hk : KeptS (fun k => k = gr) w (w.setCell ⟨gr, i, none⟩ (.slice A s.length c)) := ⟨by simp, fun k _ hne => by
    exact Below.heap_setCell w ⟨gr, i, none⟩ _ k hne⟩
  refine ⟨by rw [List.length_set]; exact hput, by rw [List.length_set, List.length_set]; exact h.len, fun j hj => ?_⟩
  rw [List.length_set] at hj
  by_cases e : i = j
  · subst e
    rw [getD_set_self _ _ _ _ (by rw [h.len]; exact hi), getD_set_self _ _ _ _ hi]
    exact ⟨A, c, rfl, hc, hs.step (Grows.refl _ _) hk⟩
  · rw [getD_set_ne _ _ _ _ _ e, getD_set_ne _ _ _ _ _ e]
    obtain ⟨A', c', e1, e2, e3⟩ := h.el j hj
    exact ⟨A', c', e1, e2, e3.step (Grows.refl _ _) hk⟩
/-- The row's beginning, as a row that is read. -/
theorem HRow.read {w0 : World} {gr cap : Nat} {w : World} {hv : List RV} {L r : List (List Int)} (h : HRow w0 gr cap w hv L) (hl : L.length ≤ 1000) (hr : r.length ≤ L.length) (he : ∀ j, j < r.length → L.getD j [] = r.getD j []) : CL w (some ⟨gr, 0, none⟩) r := by
  refine ⟨rfl, by omega, fun _ => ⟨⟨gr, 0, none⟩, rfl, fun i q hi => ?_⟩⟩
  obtain ⟨hil, hiq⟩ := List.getElem?_eq_some_iff.1 hi
  have hget : r.getD i [] = q := by rw [List.getD_eq_getElem?_getD, hi]; rfl
  obtain ⟨A, c, e1, e2, e3⟩ := h.at i (by omega)
  rw [he i hil, hget] at e1 e2 e3
  refine ⟨_, rfl, ⟨A, c, rfl, e2, e3.bytes⟩, fun u x hu => ?_⟩
  rcases u with _ | u
  · obtain rfl := Option.some.inj hu
    have ha : ∀ q : Nat, (⟨gr, 0, none⟩ : Addr).add q = ⟨gr, q, none⟩ := fun q => by
      simp [Addr.add]
      intro h0
      exact h0.symm
    show w.cell? ((⟨gr, 0, none⟩ : Addr).add (i * 1 + 0)) = _
    rw [Nat.mul_one, Nat.add_zero, ha]
    exact e1
  · simp at hu
set_option maxHeartbeats 4000000 in
set_option maxRecDepth 100000 in
theorem getNodes_calls (T : Value) (w0 : World) (gt : Nat) (S : Nat → Prop) (w : World) (n : Int) (vh : Value) (rv : List RV) (rows : List (List (List Int))) (Ai : Option Addr) (ci : Nat) (ids : List S108) (h : TSt T w0 gt S w n vh rv rv rows) (hI : Kd.C k108 w Ai ids.length ids) (hl : ids.length ≤ 1000) (hok : ∀ i, i < ids.length → ∃ lv ix : Nat, ids.getD i z108 = ⟨(lv : Int), (ix : Int)⟩ ∧ lv < rows.length ∧ ix < (rows.getD lv []).length) :
    Calls Tryd.prog 104 #[.pointer (some ⟨gt, 0, none⟩), .slice Ai ids.length ci] w fun en w' => ∃ gr cap hv, en = .returned (.slice (some ⟨gr, 0, none⟩) ids.length cap) ∧ HRow w gr cap w' hv (ids.map (nodeF rows)) ∧ ids.length ≤ cap ∧ Below w.heap.size w w' := by
  have HT := Aside0.mk h
  have HI := Aside0.mk hI
  have HOK := Aside0.mk hok
  have HLl := Aside0.mk hl
  clear h hI hok
  have ht0 : (0 : Int) ≤ (ids.length : Int) := by omega
  go_enter Tryd.func104, Tryd.ntmps104
  go_wp2_with (first
    | ((with_reducible refine gate_dst (N := 10) rfl ?_); refine Kd.R_make kO (w0 := w) w.heap.size 28 rfl (N := 10) rfl 25 (.tmp 9) (.tmp 9) rfl (ids.length : Int) rfl rfl Tryd.underlying25 (.slice none 0 0) 24 infoL rfl Nat.zero_lt_one (by omega) z0 (ok := fun _ => True) (okp := fun _ => False) rfl (fun _ h => h.elim) trivial ht0 (by rw [Int.toNat_natCast]; have := HLl.out; omega) (Below.refl _ _) (Nat.le_refl _) ?_; intro v1 w1 hR hB hG hO; rw [Int.toNat_natCast] at hR; obtain ⟨gr, capr, hv1⟩ : ∃ g cap, v1 = .slice (some ⟨g, 0, none⟩) (List.replicate ids.length z0).length cap := (by obtain ⟨_, inner, hq, _⟩ := hR; obtain ⟨b, hb1, _⟩ := hO; rcases hq.2 with ⟨he, _⟩ | ⟨g, cap, cur, he, _⟩ <;> (rw [he] at hb1); (simp [Value.ownBlock] at hb1); exact ⟨g, cap, he⟩); subst hv1; have HR1 := Aside0.mk hR; have HB1 := Aside0.mk hB; clear hR hB hG hO))
  have hlr : (List.replicate ids.length z0).length = ids.length := List.length_replicate
  rw [hlr] at HR1
  (try rw [hlr])
  clear hlr
  (try simp only [Act.put, List.setIfInBounds_toArray, List.set_cons_zero, List.set_cons_succ])
  go_loopg [13] ids.length (fun kq v13 wr => ∃ (j : Nat) (hv : List RV), j + kq = ids.length ∧ v13 = .int .i64 (j : Nat) ∧ Aside0 (kO.R 28 wr w.heap.size (fun _ => True) (.slice (some ⟨gr, 0, none⟩) ids.length capr) hv) ∧ Aside0 (hv.length = ids.length) ∧ Aside0 (∀ i, i < j → ∃ A c, hv.getD i z0 = (A, (nodeF rows (ids.getD i z108)).length, c) ∧ (nodeF rows (ids.getD i z108)).length ≤ c ∧ Safe S w A (nodeF rows (ids.getD i z108))) ∧ Aside0 (Below w.heap.size w wr))
  case atStart => exact ⟨0, List.replicate ids.length z0, by omega, rfl, HR1, ⟨List.length_replicate⟩, ⟨fun i hi => by omega⟩, HB1⟩
  case round =>
    clear HR1 HB1
    obtain ⟨j, hv, hj, rfl, HR, HVL, HA, HB⟩ := hrel
    rename World => wr
    by_cases hlt : j < ids.length
    · obtain ⟨lv, ix, hid, hlv, hix⟩ := HOK.out j hlt
      obtain ⟨go, cap, hvh, hcap⟩ := HT.out.form (by omega)
      subst hvh
      clear hcap
      have HTr := Aside0.mk (HT.out.step HB.out)
      obtain ⟨Ar, cr, hrv, hcr⟩ := HTr.out.rowv lv hlv
      have hcl := (HTr.out.cells rfl lv hlv).1
      have hrow := HTr.out.row lv hlv
      rw [hrv] at hcl hrow
      obtain ⟨ad, cx, Ah, ch, hsl, _, hx, hlh, hsafe⟩ := hrow.at ix hix
      injection hsl with e1 _ e3
      subst e1 e3
      have hcl : wr.cell? ⟨go, lv, none⟩ = some (.slice (some ad) (rows.getD lv []).length cr) := hcl
      obtain ⟨ad2, e2, hi0, hi1⟩ := at_T108 (Kd.C_below HI.out HB.out) (j : Int) (by omega) (by omega)
      cases e2
      have hrd : rd_T108 ids (j : Int) = ⟨(lv : Int), (ix : Int)⟩ := by
        show ids.getD (j : Int).toNat z108 = _
        rw [Int.toNat_natCast]
        exact hid
      rw [hrd] at hi0 hi1
      rw [Int.toNat_natCast] at hi0 hi1
      dsimp only at hi0 hi1
      have hnode : nodeF rows (ids.getD j z108) = (rows.getD lv []).getD ix [] := by rw [hid]; rfl
      have HND := Aside0.mk hnode
      have HLV : Aside0 (lv < rows.length) := ⟨hlv⟩
      -- the hash is safe in the elder world
      obtain ⟨Ar', cr', hrv', _⟩ := HT.out.rowv lv hlv
      have hrow0 := HT.out.row lv hlv
      rw [hrv] at hrow0
      obtain ⟨ad0, cx0, Ah0, ch0, hsl0, _, hx0, hlh0, hsafe0⟩ := hrow0.at ix hix
      injection hsl0 with e1 _ e3
      injection e1 with e1
      subst e1 e3
      have hxx := pw_cell_below HB.out hx0
      rw [hx] at hxx
      injection hxx with hxx
      injection hxx with hx1 _ hx3
      subst hx1 hx3
      clear hsafe hlh hrv' hx0 hrow hrow0 hrd hnode hid hcr hrv
      generalize hrl : (rows.getD lv []).length = L0 at hcl hix
      generalize (rows.getD lv []).getD ix [] = hsh at hx hlh0 hsafe0 HND
      have HSF := Aside0.mk hsafe0
      have HLH := Aside0.mk hlh0
      clear hsafe0 hlh0 hrl hlv
      have hj0 : (0 : Int) ≤ (j : Int) := by omega
      have hj1 : (j : Int) < (ids.length : Int) := by omega
      have hl0 : (0 : Int) ≤ (lv : Int) := by omega
      have hl1 : (lv : Int) < (rows.length : Int) := by have := HLV.out; omega
      have hx0 : (0 : Int) ≤ (ix : Int) := by omega
      have hx1 : (ix : Int) < (L0 : Int) := by omega
      have HJL : Aside0 (j < ids.length) := ⟨hlt⟩
      go_wp2
      have hb3 : Below wr.heap.size wr (wr.alloc (.cells #[.int .u64 (lv : Int), .int .u64 (ix : Int)] 108)).drew := below_drew (below_alloc (Below.refl _ _) _)
      have HBX := Aside0.mk (blk_drew (heap_alloc_new wr (.cells #[.int .u64 (lv : Int), .int .u64 (ix : Int)] 108)))
      have HTz := Aside0.mk (HTr.out.step hb3)
      have HRz := Aside0.mk (Kd.R_below HR.out hb3)
      have HBz := Aside0.mk (below_step HB.out hb3)
      have hclz := pw_cell_below hb3 hcl
      have hxz := pw_cell_below hb3 hx
      refine start_ (n := 16) (S := fun w' => w'.cell? ⟨gt, 2, none⟩ = some (.slice (some ⟨go, 0, none⟩) rows.length cap) ∧ w'.cell? ⟨wr.heap.size, 0, none⟩ = some (.int .u64 (lv : Int)) ∧ w'.cell? ⟨go, lv, none⟩ = some (.slice (some ad) L0 cr) ∧ w'.cell? ⟨wr.heap.size, 1, none⟩ = some (.int .u64 (ix : Int)) ∧ w'.cell? (ad.add ix) = some (.slice Ah hsh.length ch)) (ds := [15]) #[false, false, false, false, false, false, false, false, false, false, false, false, false, false, false, false] (by kernel_rfl) rfl rfl ⟨(blk_cell HTz.out.obj 2).trans rfl, (blk_cell HBX.out 0).trans rfl, hclz, (blk_cell HBX.out 1).trans rfl, hxz⟩ (fun hHeld => ?_)
      generalize (wr.alloc (.cells #[.int .u64 (lv : Int), .int .u64 (ix : Int)] 108)).drew = wz at HTz HRz HBz hclz hxz HBX hHeld ⊢
      clear hb3 hcl hx hi0 hi1 HTr HR HB
      refine pure_ (i := 0) (N := some 18) (v := ?_) (a' := ?_) #[true, false, false, false, false, false, false, false, false, false, false, false, false, false, false, false] rfl rfl (by kernel_rfl) (fun _ _ _ h => h) (Or.inl ⟨by rfl, ?_⟩) ?_ ?_
      rotate_left
      · intro w'
        go_simp
        with_reducible rfl
      rotate_left
      · simp only [Act.put, List.setIfInBounds_toArray, List.set_cons_zero, List.set_cons_succ]
        rfl
      refine pure_ (i := 1) (N := some 19) (v := ?_) (a' := ?_) #[true, true, false, false, false, false, false, false, false, false, false, false, false, false, false, false] rfl rfl (by kernel_rfl) (fun _ _ _ h => h) (Or.inl ⟨by rfl, ?_⟩) ?_ ?_
      rotate_left
      · intro w'
        go_simp
        with_reducible rfl
      rotate_left
      · simp only [Act.put, List.setIfInBounds_toArray, List.set_cons_zero, List.set_cons_succ]
        rfl
      refine pure_ (i := 2) (N := some 20) (v := ?_) (a' := ?_) #[true, true, true, false, false, false, false, false, false, false, false, false, false, false, false, false] rfl rfl (by kernel_rfl) (fun _ _ _ h => h) (Or.inl ⟨by rfl, ?_⟩) ?_ ?_
      rotate_left
      · intro w'
        go_simp
        with_reducible rfl
      rotate_left
      · simp only [Act.put, List.setIfInBounds_toArray, List.set_cons_zero, List.set_cons_succ]
        rfl
      refine pure_ (i := 3) (N := some 21) (v := ?_) (a' := ?_) #[true, true, true, true, false, false, false, false, false, false, false, false, false, false, false, false] rfl rfl (by kernel_rfl) (fun _ _ _ h => h) (Or.inl ⟨by rfl, ?_⟩) ?_ ?_
      rotate_left
      · intro w'
        go_simp
        with_reducible rfl
      rotate_left
      · simp only [Act.put, List.setIfInBounds_toArray, List.set_cons_zero, List.set_cons_succ]
        rfl
      refine pure_ (i := 4) (N := some 22) (v := ?_) (a' := ?_) #[true, true, true, true, true, false, false, false, false, false, false, false, false, false, false, false] rfl rfl (by kernel_rfl) (fun _ _ _ h => h) (Or.inl ⟨by rfl, ?_⟩) ?_ ?_
      rotate_left
      · intro w'
        go_simp
        with_reducible rfl
      rotate_left
      · simp only [Act.put, List.setIfInBounds_toArray, List.set_cons_zero, List.set_cons_succ]
        rfl
      refine take_ (i := 5) (N := some 23) (v := ?_) (a' := ?_) #[true, true, true, true, true, true, false, false, false, false, false, false, false, false, false, false] rfl rfl (by kernel_rfl) (fun _ _ _ h => h) (Or.inl ⟨by rfl, ?_⟩) hHeld ?_ ?_
      rotate_left
      · rintro w' ⟨s0, s1, s2, s3, s4⟩
        go_simp
        with_reducible rfl
      rotate_left
      · simp only [Act.put, List.setIfInBounds_toArray, List.set_cons_zero, List.set_cons_succ]
        rfl
      refine pure_ (i := 6) (N := some 24) (v := ?_) (a' := ?_) #[true, true, true, true, true, true, true, false, false, false, false, false, false, false, false, false] rfl rfl (by kernel_rfl) (fun _ _ _ h => h) (Or.inl ⟨by rfl, ?_⟩) ?_ ?_
      rotate_left
      · intro w'
        go_simp
        with_reducible rfl
      rotate_left
      · simp only [Act.put, List.setIfInBounds_toArray, List.set_cons_zero, List.set_cons_succ]
        rfl
      refine take_ (i := 7) (N := some 25) (v := ?_) (a' := ?_) #[true, true, true, true, true, true, true, true, false, false, false, false, false, false, false, false] rfl rfl (by kernel_rfl) (fun _ _ _ h => h) (Or.inl ⟨by rfl, ?_⟩) hHeld ?_ ?_
      rotate_left
      · rintro w' ⟨s0, s1, s2, s3, s4⟩
        go_simp
        with_reducible rfl
      rotate_left
      · simp only [Act.put, List.setIfInBounds_toArray, List.set_cons_zero, List.set_cons_succ]
        rfl
      refine pure_ (i := 8) (N := some 26) (v := ?_) (a' := ?_) #[true, true, true, true, true, true, true, true, true, false, false, false, false, false, false, false] rfl rfl (by kernel_rfl) (fun _ _ _ h => h) (Or.inl ⟨by rfl, ?_⟩) ?_ ?_
      rotate_left
      · intro w'
        go_simp
        with_reducible rfl
      rotate_left
      · simp only [Act.put, List.setIfInBounds_toArray, List.set_cons_zero, List.set_cons_succ]
        rfl
      refine take_ (i := 9) (N := some 27) (v := ?_) (a' := ?_) #[true, true, true, true, true, true, true, true, true, true, false, false, false, false, false, false] rfl rfl (by kernel_rfl) (fun _ _ _ h => h) (Or.inl ⟨by rfl, ?_⟩) hHeld ?_ ?_
      rotate_left
      · rintro w' ⟨s0, s1, s2, s3, s4⟩
        go_simp
        with_reducible rfl
      rotate_left
      · simp only [Act.put, List.setIfInBounds_toArray, List.set_cons_zero, List.set_cons_succ]
        rfl
      refine pure_ (i := 10) (N := some 28) (v := ?_) (a' := ?_) #[true, true, true, true, true, true, true, true, true, true, true, false, false, false, false, false] rfl rfl (by kernel_rfl) (fun _ _ _ h => h) (Or.inl ⟨by rfl, ?_⟩) ?_ ?_
      rotate_left
      · intro w'
        go_simp
        with_reducible rfl
      rotate_left
      · simp only [Act.put, List.setIfInBounds_toArray, List.set_cons_zero, List.set_cons_succ]
        rfl
      refine take_ (i := 11) (N := some 29) (v := ?_) (a' := ?_) #[true, true, true, true, true, true, true, true, true, true, true, true, false, false, false, false] rfl rfl (by kernel_rfl) (fun _ _ _ h => h) (Or.inl ⟨by rfl, ?_⟩) hHeld ?_ ?_
      rotate_left
      · rintro w' ⟨s0, s1, s2, s3, s4⟩
        go_simp
        with_reducible rfl
      rotate_left
      · simp only [Act.put, List.setIfInBounds_toArray, List.set_cons_zero, List.set_cons_succ]
        rfl
      refine pure_ (i := 12) (N := some 30) (v := ?_) (a' := ?_) #[true, true, true, true, true, true, true, true, true, true, true, true, true, false, false, false] rfl rfl (by kernel_rfl) (fun _ _ _ h => h) (Or.inl ⟨by rfl, ?_⟩) ?_ ?_
      rotate_left
      · intro w'
        go_simp
        with_reducible rfl
      rotate_left
      · simp only [Act.put, List.setIfInBounds_toArray, List.set_cons_zero, List.set_cons_succ]
        rfl
      refine take_ (i := 13) (N := some 31) (v := ?_) (a' := ?_) #[true, true, true, true, true, true, true, true, true, true, true, true, true, true, false, false] rfl rfl (by kernel_rfl) (fun _ _ _ h => h) (Or.inl ⟨by rfl, ?_⟩) hHeld ?_ ?_
      rotate_left
      · rintro w' ⟨s0, s1, s2, s3, s4⟩
        go_simp
        with_reducible rfl
      rotate_left
      · simp only [Act.put, List.setIfInBounds_toArray, List.set_cons_zero, List.set_cons_succ]
        rfl
      refine pure_ (i := 14) (N := some 32) (v := ?_) (a' := ?_) #[true, true, true, true, true, true, true, true, true, true, true, true, true, true, true, false] rfl rfl (by kernel_rfl) (fun _ _ _ h => h) (Or.inl ⟨by rfl, ?_⟩) ?_ ?_
      rotate_left
      · intro w'
        go_simp
        with_reducible rfl
      rotate_left
      · simp only [Act.put, List.setIfInBounds_toArray, List.set_cons_zero, List.set_cons_succ]
        rfl
      obtain ⟨hcs, hfs⟩ := Kd.R_celln z0 HRz.out (j : Int) hj0 hj1
      rw [Int.toNat_natCast] at hcs hfs
      have hput := Kd.R_putn HRz.out (j : Int) ((Ah, hsh.length, ch) : RV)
      rw [Int.toNat_natCast] at hput
      have hgr0 := Kd.R_base HRz.out gr rfl
      clear hHeld
      refine last_ (i := 15) (N := none) #[true, true, true, true, true, true, true, true, true, true, true, true, true, true, true, true] rfl rfl (by kernel_rfl) (by simp) (fun K hK => ?_)
      refine store_step rfl (w1 := wz.setCell ⟨gr, j, none⟩ (.slice Ah hsh.length ch)) (by first | (go_simp; done) | (go_simp; rfl) | (go_simp; exact ⟨rfl, rfl⟩)) ?_
      refine hK.out _ _ ?_
      clear hK K
      refine norm_ (a' := ?_) ?_ ?_
      rotate_left
      · show Act.put _ none _ = _
        first | rfl | (simp only [Act.put]; rfl) | simp only [Act.put]
      refine done_ (by kernel_rfl) ?_
      have HP2 := Aside0.mk hput
      have HB2 : Aside0 (Below w.heap.size w (wz.setCell ⟨gr, j, none⟩ (.slice Ah hsh.length ch))) := ⟨Below.setCell HBz.out hgr0 _⟩
      have HA2 : Aside0 (∀ i, i < j + 1 → ∃ A c, (hv.set j ((Ah, hsh.length, ch) : RV)).getD i z0 = (A, (nodeF rows (ids.getD i z108)).length, c) ∧ (nodeF rows (ids.getD i z108)).length ≤ c ∧ Safe S w A (nodeF rows (ids.getD i z108))) := ⟨fun i hi => by
        by_cases e : j = i
        · subst e
          rw [getD_set_self _ _ _ _ (by rw [HVL.out]; exact HJL.out), HND.out]
          exact ⟨_, _, rfl, HLH.out, HSF.out⟩
        · rw [getD_set_ne _ _ _ _ _ e]
          exact HA.out i (by omega)⟩
      have HVL2 : Aside0 ((hv.set j ((Ah, hsh.length, ch) : RV)).length = ids.length) := ⟨by rw [List.length_set]; exact HVL.out⟩
      clear hput hcs hfs hgr0 HRz HTz HBz hclz hxz HBX
      generalize (wz.setCell ⟨gr, j, none⟩ (.slice Ah hsh.length ch)) = w9 at HP2 HB2 ⊢
      have hj64 : ∀ z : Int, z = 1 → wrap64 ((j : Int) + z) = ((j + 1 : Nat) : Int) := fun z hz => by rw [hz, w64_in _ (by have := HLl.out; omega)]; omega
      go_wp2
      go_roundg (ids.length - (j + 1))
      case measure =>
        clear hj64
        omega
      case rel =>
        have hv2 := hj64 1 rfl
        have hj2 : j + 1 + (ids.length - (j + 1)) = ids.length := by clear hv2 hj64; omega
        exact ⟨j + 1, _, hj2, by first | rfl | exact congrArg (Value.int .i64) hv2, HP2, HVL2, HA2, HB2⟩
    · obtain rfl : j = ids.length := by omega
      go_wp2
      go_ret
      have hcp : ids.length ≤ capr := by
        obtain ⟨A, c, e2, hl2, _⟩ := Kd.R_reads HR.out
        injection e2 with _ _ e3
        rw [HVL.out] at hl2
        omega
      have hg0 : w.heap.size ≤ gr := Kd.R_base HR.out gr rfl
      refine ⟨gr, capr, hv, rfl, ⟨by rw [List.length_map]; exact HR.out, by rw [List.length_map]; exact HVL.out, fun i hi => ?_⟩, hcp, HB.out⟩
      rw [List.length_map] at hi
      obtain ⟨A, c, e1, e2, e3⟩ := HA.out i hi
      have hget : (ids.map (nodeF rows)).getD i [] = nodeF rows (ids.getD i z108) := by
        rw [List.getD_eq_getElem?_getD, List.getD_eq_getElem?_getD, List.getElem?_map, List.getElem?_eq_getElem hi]
        rfl
      rw [hget]
      refine ⟨A, c, e1, e2, ⟨Kd.C_below e3.bytes HB.out, fun hp ad e => ?_⟩⟩
      have h1 := (e3.away hp ad e).1
      exact ⟨Nat.lt_of_lt_of_le h1 HB.out.size, fun hq => by omega⟩
end Go.Proofs.YtfhcpniibiobgaaDoor.Qf
namespace Go.Proofs.YtfhcpniibiobgaaDoor.Qf
open Go.RowKit Go.Proofs.YtfhcpniibiobgaaDoorW.PrintWords Go.Proofs.YtfhcpniibiobgaaDoorW.PrintLast Go.Proofs.YtfhcpniibiobgaaDoorW.PrintMore
open Hs (CB CL at_L at_B infoB infoL R_of_blk)

/-- Hashing up: the others to the left. -/
def chainB (a0 a1 a2 a3 a4 a5 : Int) : List (List Int) → List Int → Option (List Int)
  | [], s => some s
  | h :: t, s => (impl_toy_HashChildren.f a0 a1 a2 a3 a4 a5 h s).bind fun s' => chainB a0 a1 a2 a3 a4 a5 t s'
/-- What Rehash makes of the hashes behind i, those ahead done. -/
def rehG (a0 a1 a2 a3 a4 a5 : Int) (L : List (List Int)) (B E : Nat) : Nat → Nat → List (List Int) → Option (List (List Int))
  | 0, _, out => some out
  | f + 1, i, out => if i < L.length then
      (if B ≤ i ∧ i < E then (chainB a0 a1 a2 a3 a4 a5 ((L.drop (i + 1)).take (E - (i + 1))) (L.getD i [])).bind fun s => rehG a0 a1 a2 a3 a4 a5 L B E f E (out ++ [s]) else rehG a0 a1 a2 a3 a4 a5 L B E f (i + 1) (out ++ [L.getD i []]))
    else some out
/-- How the hashes stand while they are made anew. -/
structure RhSt (w0 : World) (gr cap : Nat) (L : List (List Int)) (gb : Nat) (bc : Array Value) (w : World) (i : Nat) (out Lc : List (List Int)) (hvc : List RV) : Prop where
  len : Lc.length = L.length
  oi : out.length ≤ i
  eq : ∀ j, i ≤ j → Lc.getD j [] = L.getD j []
  eo : ∀ j, j < out.length → Lc.getD j [] = out.getD j []
  row : HRow w0 gr cap w hvc Lc
  below : Below w0.heap.size w0 w
  box : w.heap[gb]? = some (.cells bc 132 (0, 0))
theorem RhSt.step {w0 : World} {gr cap : Nat} {L : List (List Int)} {gb : Nat} {bc : Array Value} {w w' : World} {i : Nat} {out Lc : List (List Int)} {hvc : List RV} (h : RhSt w0 gr cap L gb bc w i out Lc hvc) (hb : Below w.heap.size w w') : RhSt w0 gr cap L gb bc w' i out Lc hvc :=
  ⟨h.len, h.oi, h.eq, h.eo, h.row.step hb, below_step h.below hb, blk_below h.box hb⟩
theorem RhSt.put {w0 : World} {gr cap : Nat} {L : List (List Int)} {gb : Nat} {bc : Array Value} {w : World} {i : Nat} {out Lc : List (List Int)} {hvc : List RV} (h : RhSt w0 gr cap L gb bc w i out Lc hvc) (hne : gr ≠ gb) (hi : i < L.length) (i' : Nat) (hii : i < i') {A : Option Addr} {s : List Int} {c : Nat} (hc : s.length ≤ c) (hs : Safe (fun k => k = gr) w A s) :
    RhSt w0 gr cap L gb bc (w.setCell ⟨gr, out.length, none⟩ (.slice A s.length c)) i' (out ++ [s]) (Lc.set out.length s) (hvc.set out.length ((A, s.length, c) : RV)) := by
  have ho : out.length < Lc.length := by have := h.oi; have := h.len; omega
  refine ⟨by rw [List.length_set]; exact h.len, by rw [List.length_append, List.length_singleton]; have := h.oi; omega, fun j hj => ?_, fun j hj => ?_, h.row.put out.length ho hc hs, Below.setCell h.below (Kd.R_base h.row.own gr rfl) _, ?_⟩
  · rw [getD_set_ne _ _ _ _ _ (by have := h.oi; omega)]
    exact h.eq j (by omega)
  · rw [List.length_append, List.length_singleton] at hj
    by_cases e : out.length = j
    · subst e
      rw [getD_set_self _ _ _ _ ho, getD_snoc, if_pos rfl]
    · rw [getD_set_ne _ _ _ _ _ e, getD_snoc, if_neg (by omega)]
      exact h.eo j (by omega)
  · rw [Below.heap_setCell w ⟨gr, out.length, none⟩ _ gb (fun e => hne e.symm)]
    exact h.box
set_option maxHeartbeats 4000000 in
set_option maxRecDepth 100000 in
theorem rehash_calls (a0 a1 a2 a3 a4 a5 : Int) (w0 w : World) (gr cap : Nat) (hv : List RV) (L : List (List Int)) (Ai : Option Addr) (ci B E : Nat) (lv ix : Int) (r : List (List Int)) (hB : Below w0.heap.size w0 w) (h : HRow w0 gr cap w hv L) (hcp : L.length ≤ cap) (hl : L.length ≤ 1000) (hE : E ≤ L.length) (hr : rehG a0 a1 a2 a3 a4 a5 L B E L.length 0 [] = some r) :
    Calls Tryd.prog 82 #[.agg #[.slice Ai L.length ci, .int .i64 (B : Int), .int .i64 (E : Int), .int .u64 lv, .int .u64 ix], .slice (some ⟨gr, 0, none⟩) L.length cap, .func (.method "HashChildren") #[toyV a0 a1 a2 a3 a4 a5] #[]] w fun en w' => en = .returned (.tuple #[.slice (some ⟨gr, 0, none⟩) r.length cap, .nilIface]) ∧ CL w' (some ⟨gr, 0, none⟩) r ∧ r.length ≤ cap ∧ Below w0.heap.size w0 w' := by
  have hg0 : w0.heap.size ≤ gr := Kd.R_base h.own gr rfl
  have HG0 := Aside0.mk hg0
  have hgl := Kd.R_lt h.own gr rfl
  have HGX : Aside0 (gr ≠ w.heap.size) := ⟨by omega⟩
  have HH0 := Aside0.mk h
  have HB0 := Aside0.mk hB
  have HCP := Aside0.mk hcp
  have HL := Aside0.mk hl
  have HE := Aside0.mk hE
  have HR := Aside0.mk hr
  have hmt := meth_hc a0 a1 a2 a3 a4 a5
  clear hg0 hgl hB h hcp hl hE hr
  have t1 : ((L.length : Int) != (L.length : Int)) = false := bne_eq_false_iff_eq.2 rfl
  have t1n : (L.length != L.length) = false := bne_eq_false_iff_eq.2 rfl
  go_enter Tryd.func82, Tryd.ntmps82
  go_wp2
  have hb3 : Below w.heap.size w (w.alloc (.cells #[.slice Ai L.length ci, .int .i64 (B : Int), .int .i64 (E : Int), .int .u64 lv, .int .u64 ix] 132)).drew := below_drew (below_alloc (Below.refl _ _) _)
  have HX := Aside0.mk (blk_drew (heap_alloc_new w (.cells #[.slice Ai L.length ci, .int .i64 (B : Int), .int .i64 (E : Int), .int .u64 lv, .int .u64 ix] 132)))
  have HH := Aside0.mk (HH0.out.step hb3)
  have HB := Aside0.mk (below_step HB0.out hb3)
  refine start_ (n := 7) (S := fun w' => w'.cell? ⟨w.heap.size, 0, none⟩ = some (.slice Ai L.length ci)) (ds := []) #[false, false, false, false, false, false, false] (by kernel_rfl) rfl rfl ((blk_cell HX.out 0).trans rfl) (fun hHeld => ?_)
  generalize (w.alloc (.cells #[.slice Ai L.length ci, .int .i64 (B : Int), .int .i64 (E : Int), .int .u64 lv, .int .u64 ix] 132)).drew = wz at HX HH HB hHeld ⊢
  generalize w.heap.size = gb at HX HGX hHeld ⊢
  clear hb3 HH0 HB0
  refine pure_ (i := 0) (N := some 14) (v := ?_) (a' := ?_) #[true, false, false, false, false, false, false] rfl rfl (by kernel_rfl) (fun _ _ _ h => h) (Or.inl ⟨by rfl, ?_⟩) ?_ ?_
  rotate_left
  · intro w'
    go_simp
    with_reducible rfl
  rotate_left
  · simp only [Act.put, List.setIfInBounds_toArray, List.set_cons_zero, List.set_cons_succ]
    rfl
  refine pure_ (i := 1) (N := some 15) (v := ?_) (a' := ?_) #[true, true, false, false, false, false, false] rfl rfl (by kernel_rfl) (fun _ _ _ h => h) (Or.inl ⟨by rfl, ?_⟩) ?_ ?_
  rotate_left
  · intro w'
    go_simp
    with_reducible rfl
  rotate_left
  · simp only [Act.put, List.setIfInBounds_toArray, List.set_cons_zero, List.set_cons_succ]
    rfl
  refine pure_ (i := 2) (N := some 16) (v := ?_) (a' := ?_) #[true, true, true, false, false, false, false] rfl rfl (by kernel_rfl) (fun _ _ _ h => h) (Or.inl ⟨by rfl, ?_⟩) ?_ ?_
  rotate_left
  · intro w'
    go_simp
    with_reducible rfl
  rotate_left
  · simp only [Act.put, List.setIfInBounds_toArray, List.set_cons_zero, List.set_cons_succ]
    rfl
  refine take_ (i := 3) (N := some 17) (v := ?_) (a' := ?_) #[true, true, true, true, false, false, false] rfl rfl (by kernel_rfl) (fun _ _ _ h => h) (Or.inl ⟨by rfl, ?_⟩) hHeld ?_ ?_
  rotate_left
  · rintro w' s0
    go_simp
    with_reducible rfl
  rotate_left
  · simp only [Act.put, List.setIfInBounds_toArray, List.set_cons_zero, List.set_cons_succ]
    rfl
  refine pure_ (i := 4) (N := some 18) (v := ?_) (a' := ?_) #[true, true, true, true, true, false, false] rfl rfl (by kernel_rfl) (fun _ _ _ h => h) (Or.inl ⟨by rfl, ?_⟩) ?_ ?_
  rotate_left
  · intro w'
    go_simp
    with_reducible rfl
  rotate_left
  · simp only [Act.put, List.setIfInBounds_toArray, List.set_cons_zero, List.set_cons_succ]
    rfl
  refine pure_ (i := 5) (N := some 8) (v := ?_) (a' := ?_) #[true, true, true, true, true, true, false] rfl rfl (by kernel_rfl) (fun _ _ _ h => h) (Or.inl ⟨by rfl, ?_⟩) ?_ ?_
  rotate_left
  · intro w'
    go_simp
    with_reducible rfl
  rotate_left
  · simp only [Act.put, List.setIfInBounds_toArray, List.set_cons_zero, List.set_cons_succ]
    rfl
  refine pure_ (i := 6) (N := some 9) (v := ?_) (a' := ?_) #[true, true, true, true, true, true, true] rfl rfl (by kernel_rfl) (fun _ _ _ h => h) (Or.inl ⟨by rfl, ?_⟩) ?_ ?_
  rotate_left
  · intro w'
    go_simp
    with_reducible rfl
  rotate_left
  · simp only [Act.put, List.setIfInBounds_toArray, List.set_cons_zero, List.set_cons_succ]
    rfl
  refine done_ (by kernel_rfl) ?_
  clear hHeld
  go_wp2
  go_loopg [10, 11] L.length (fun kq v10 v11 wr => ∃ (i f : Nat) (out Lc : List (List Int)) (hvc : List RV), i + kq = L.length ∧ v11 = .int .i64 (i : Nat) ∧ v10 = .int .i64 (out.length : Nat) ∧ Aside0 (L.length ≤ i + f) ∧ Aside0 (rehG a0 a1 a2 a3 a4 a5 L B E f i out = some r) ∧ Aside0 (RhSt w0 gr cap L gb #[.slice Ai L.length ci, .int .i64 (B : Int), .int .i64 (E : Int), .int .u64 lv, .int .u64 ix] wr i out Lc hvc))
  case atStart => exact ⟨0, L.length, [], L, hv, by omega, rfl, rfl, ⟨by omega⟩, HR, ⟨⟨rfl, by simp, fun _ _ => rfl, fun j hj => by simp at hj, HH.out, HB.out, HX.out⟩⟩⟩
  case round =>
    clear HR HH HB HX
    obtain ⟨i, f, out, Lc, hvc, hi, rfl, rfl, HF, HR, HS⟩ := hrel
    rename World => wr
    have k1 : wr.cell? ⟨gb, 1, none⟩ = some (.int .i64 (B : Int)) := (blk_cell HS.out.box 1).trans rfl
    have k2 : wr.cell? ⟨gb, 2, none⟩ = some (.int .i64 (E : Int)) := (blk_cell HS.out.box 2).trans rfl
    by_cases hlt : i < L.length
    · obtain ⟨f, rfl⟩ : ∃ f', f = f' + 1 := ⟨f - 1, by have := HF.out; omega⟩
      obtain ⟨A, c, hx, hxl, hsf⟩ := HS.out.row.at i (by rw [HS.out.len]; exact hlt)
      rw [HS.out.eq i (Nat.le_refl _)] at hx hxl hsf
      have hrr := HR.out
      rw [rehG, if_pos hlt] at hrr
      obtain ⟨hcs, hfs⟩ := Kd.R_celln z0 HS.out.row.own (out.length : Int) (by omega) (by have := HS.out.oi; have := HS.out.len; omega)
      rw [Int.toNat_natCast] at hcs hfs
      generalize L.getD i [] = s at hx hxl hsf hrr
      have HXL := Aside0.mk hxl
      have HSF := Aside0.mk hsf
      have HJL : Aside0 (i < L.length) := ⟨hlt⟩
      clear HR hxl hsf
      have hi0 : (0 : Int) ≤ (i : Int) := by omega
      have hi1 : (i : Int) < (L.length : Int) := by omega
      have ho0 : (0 : Int) ≤ (out.length : Int) := by omega
      have ho1 : (out.length : Int) < (L.length : Int) := by have := HS.out.oi; omega
      have hw1 : ∀ z : Int, z = 1 → wrap64 ((i : Int) + z) = ((i + 1 : Nat) : Int) := fun z hz => by rw [hz, w64_in _ (by have := HL.out; omega)]; omega
      have hw2 : ∀ z : Int, z = 1 → wrap64 ((out.length : Int) + z) = ((out.length + 1 : Nat) : Int) := fun z hz => by rw [hz, w64_in _ (by have := HL.out; have := HS.out.oi; omega)]; omega
      by_cases hblk : B ≤ i ∧ i < E
      · rw [if_pos hblk] at hrr
        obtain ⟨s2, hs2, hr2⟩ := Option.bind_eq_some_iff.mp hrr
        have HS2 := Aside0.mk hs2
        have HR2 := Aside0.mk hr2
        have p1 : decide ((B : Int) ≤ (i : Int)) = true := decide_eq_true (by omega)
        have p1n : decide (B ≤ i) = true := decide_eq_true hblk.1
        have p2 : decide ((i : Int) < (E : Int)) = true := decide_eq_true (by omega)
        have p2n : decide (i < E) = true := decide_eq_true hblk.2
        clear hs2 hr2 hrr
        have HBI := Aside0.mk hblk
        clear hblk
        go_wp2
        go_loopg [11, 13] (E - (i + 1)) (fun kq v11 v13 wv => ∃ (j : Nat) (s' : List Int) (A' : Option Addr) (c' : Nat), j + kq = E ∧ i < j ∧ v11 = .int .i64 (j : Nat) ∧ v13 = .slice A' s'.length c' ∧ Aside0 (s'.length ≤ c') ∧ Aside0 (Safe (fun k => k = gr) wv A' s') ∧ Aside0 (chainB a0 a1 a2 a3 a4 a5 ((L.drop j).take (E - j)) s' = some s2) ∧ Aside0 (RhSt w0 gr cap L gb #[.slice Ai L.length ci, .int .i64 (B : Int), .int .i64 (E : Int), .int .u64 lv, .int .u64 ix] wv i out Lc hvc))
        case atStart =>
          have hv1 := hw1 1 rfl
          have hi2 : i + 1 + (E - (i + 1)) = E := by clear hw1 hw2 hv1; have := HBI.out; omega
          exact ⟨i + 1, s, A, c, hi2, Nat.lt_succ_self i, by first | rfl | exact congrArg (Value.int .i64) hv1, rfl, HXL, HSF, HS2, HS⟩
        case round =>
          clear HXL HSF HS2 HS hx hcs hfs k1 k2 hw1 p1 p1n p2 p2n
          obtain ⟨j, s', A', c', hj, hij, rfl, rfl, HXL, HSF, HS2, HS⟩ := hrel
          rename World => wv
          have k2 : wv.cell? ⟨gb, 2, none⟩ = some (.int .i64 (E : Int)) := (blk_cell HS.out.box 2).trans rfl
          have HIJ := Aside0.mk hij
          by_cases hje : j < E
          · have hjl : j < L.length := by have := HE.out; omega
            obtain ⟨Ah, ch, hx, hxl, hsf⟩ := HS.out.row.at j (by rw [HS.out.len]; exact hjl)
            rw [HS.out.eq j (by omega)] at hx hxl hsf
            have htk : (L.drop j).take (E - j) = L.getD j [] :: (L.drop (j + 1)).take (E - (j + 1)) := by
              rw [List.drop_eq_getElem_cons hjl, show E - j = (E - (j + 1)) + 1 by omega, List.take_succ_cons, List.getD_eq_getElem?_getD, List.getElem?_eq_getElem hjl]
              rfl
            have hh := HS2.out
            rw [htk] at hh
            generalize L.getD j [] = hsh at hh hx hxl hsf
            simp only [chainB] at hh
            obtain ⟨s3, hs3, hh3⟩ := Option.bind_eq_some_iff.mp hh
            have HH3 := Aside0.mk hh3
            have HS3 := Aside0.mk hs3
            have HXh := Aside0.mk hxl
            have HSh := Aside0.mk hsf
            have HJL2 : Aside0 (j < L.length) := ⟨hjl⟩
            have HJE : Aside0 (j < E) := ⟨hje⟩
            clear htk hh hh3 hs3 hxl hsf HS2
            have q0 : (0 : Int) ≤ (j : Int) := by omega
            have q1 : (j : Int) < (L.length : Int) := by omega
            have q2 : decide ((j : Int) < (E : Int)) = true := decide_eq_true (by omega)
            have q2n : decide (j < E) = true := decide_eq_true hje
            have hw3 : ∀ z : Int, z = 1 → wrap64 ((j : Int) + z) = ((j + 1 : Nat) : Int) := fun z hz => by rw [hz, w64_in _ (by have := HL.out; have := HJL2.out; omega)]; omega
            go_wp2_with (first
              | (go_at_call 53; (with_reducible refine (impl_toy_HashChildren.calls a0 a1 a2 a3 a4 a5 Ah ch hsh A' c' s' s3 _ HSh.out.bytes HXh.out HSF.out.bytes HXL.out HS3.out).mono ?_); rintro en w3 ⟨v3, rfl, hR3, hb⟩; obtain ⟨A3, c3, rfl, hl3, _⟩ := Kd.R_reads hR3; have HL3 := Aside0.mk hl3; have HSF3 := Aside0.mk (Safe.new (S := fun k => k = gr) (w := wv) (fun k hk => by rw [hk]; exact Kd.R_lt HS.out.row.own gr rfl) hR3); have HSt := Aside0.mk (HS.out.step hb); clear hR3 hl3 hb))
            go_roundg (E - (j + 1))
            case measure =>
              clear hw3 hw2
              omega
            case rel =>
              have hv3 := hw3 1 rfl
              have hj2 : j + 1 + (E - (j + 1)) = E := by clear hw3 hv3 hw2; omega
              have hj3 : i < j + 1 := by clear hw3 hv3 hw2; omega
              exact ⟨j + 1, s3, A3, c3, hj2, hj3, by first | rfl | exact congrArg (Value.int .i64) hv3, rfl, HL3, HSF3, HH3, HSt⟩
          · obtain rfl : j = E := by omega
            have hh := HS2.out
            rw [Nat.sub_self, List.take_zero] at hh
            obtain rfl := Option.some.inj hh
            clear hh HS2
            obtain ⟨hcs, hfs⟩ := Kd.R_celln z0 HS.out.row.own (out.length : Int) (by omega) (by have := HS.out.oi; have := HS.out.len; omega)
            rw [Int.toNat_natCast] at hcs hfs
            have HSp := Aside0.mk (HS.out.put HGX.out HJL.out j HIJ.out HXL.out HSF.out)
            have q2 : decide ((j : Int) < (j : Int)) = false := decide_eq_false (by omega)
            have q2n : decide (j < j) = false := decide_eq_false (by omega)
            have hw3 : ∀ z : Int, z = 1 → wrap64 ((j : Int) - z) = (j : Int) - 1 := fun z hz => by rw [hz, w64_in _ (by have := HL.out; have := HE.out; omega)]
            have hw4 : ∀ z : Int, z = 1 → wrap64 ((j : Int) - 1 + z) = (j : Int) := fun z hz => by rw [hz, w64_in _ (by have := HL.out; have := HE.out; omega)]; omega
            have hw5 : ∀ z : Int, z = (j : Int) → wrap64 z = (j : Int) := fun z hz => by rw [hz, w64_in _ (by have := HL.out; have := HE.out; omega)]
            go_wp2
            go_roundg (L.length - j)
            case measure =>
              clear hw3 hw4 hw5 hw2
              have := HIJ.out
              have := HE.out
              omega
            case rel =>
              have hv2 := hw2 1 rfl
              have hv3 := hw3 1 rfl
              have hv4 := hw4 1 rfl
              have hv5 := hw5 _ rfl
              have hi2 : j + (L.length - j) = L.length := by clear hw3 hw4 hw5 hv2 hv3 hv4 hv5 hw2; have := HE.out; omega
              have hf2 : L.length ≤ j + f := by clear hw3 hw4 hw5 hv2 hv3 hv4 hv5 hw2; have := HF.out; have := HIJ.out; omega
              exact ⟨j, f, out ++ [s'], _, _, hi2, by first | rfl | exact congrArg (Value.int .i64) hv5 | exact congrArg (Value.int .i64) hv4, by rw [List.length_append, List.length_singleton]; first | rfl | exact congrArg (Value.int .i64) hv2, ⟨hf2⟩, HR2, HSp⟩
      · rw [if_neg hblk] at hrr
        have HR2 := Aside0.mk hrr
        have HS2 := Aside0.mk (HS.out.put HGX.out HJL.out (i + 1) (by omega) HXL.out HSF.out)
        clear hrr
        by_cases hbi : B ≤ i
        · have p1 : decide ((B : Int) ≤ (i : Int)) = true := decide_eq_true (by omega)
          have p1n : decide (B ≤ i) = true := decide_eq_true hbi
          have p2 : decide ((i : Int) < (E : Int)) = false := decide_eq_false (by omega)
          have p2n : decide (i < E) = false := decide_eq_false (by omega)
          clear hbi hblk
          go_wp2
          go_roundg (L.length - (i + 1))
          case measure =>
            clear hw1 hw2
            omega
          case rel =>
            have hv1 := hw1 1 rfl
            have hv2 := hw2 1 rfl
            have hi2 : i + 1 + (L.length - (i + 1)) = L.length := by clear hw1 hw2 hv1 hv2; omega
            have hf2 : L.length ≤ i + 1 + f := by clear hw1 hw2 hv1 hv2; have := HF.out; omega
            exact ⟨i + 1, f, out ++ [s], _, _, hi2, by first | rfl | exact congrArg (Value.int .i64) hv1, by rw [List.length_append, List.length_singleton]; first | rfl | exact congrArg (Value.int .i64) hv2, ⟨hf2⟩, HR2, HS2⟩
        · have p1 : decide ((B : Int) ≤ (i : Int)) = false := decide_eq_false (by omega)
          have p1n : decide (B ≤ i) = false := decide_eq_false hbi
          clear hbi hblk
          go_wp2
          go_roundg (L.length - (i + 1))
          case measure =>
            clear hw1 hw2
            omega
          case rel =>
            have hv1 := hw1 1 rfl
            have hv2 := hw2 1 rfl
            have hi2 : i + 1 + (L.length - (i + 1)) = L.length := by clear hw1 hw2 hv1 hv2; omega
            have hf2 : L.length ≤ i + 1 + f := by clear hw1 hw2 hv1 hv2; have := HF.out; omega
            exact ⟨i + 1, f, out ++ [s], _, _, hi2, by first | rfl | exact congrArg (Value.int .i64) hv1, by rw [List.length_append, List.length_singleton]; first | rfl | exact congrArg (Value.int .i64) hv2, ⟨hf2⟩, HR2, HS2⟩
    · obtain rfl : i = L.length := by omega
      have hrr := HR.out
      have hro : out = r := by
        rcases f with _ | f
        · exact Option.some.inj hrr
        · rw [rehG, if_neg (by omega)] at hrr
          exact Option.some.inj hrr
      subst hro
      clear hrr HR
      have hcut : ∀ W : World, (Instr.slice 25 (.slice (some ⟨gr, 0, none⟩) L.length cap) none (some (.int .i64 (out.length : Int))) none).run Tryd.prog W = .ok (.slice (some ⟨gr, 0, none⟩) out.length cap) W := fun W => by
        obtain ⟨iL, hiL, _⟩ := Option.map_eq_some_iff.1 infoL
        have h := cut_to (P := Tryd.prog) 25 28 .i64 Tryd.underlying25 hiL (some ⟨gr, 0, none⟩) L.length cap (out.length : Int) (by omega) (by have := HS.out.oi; have := HCP.out; omega) HCP.out W
        rw [Int.toNat_natCast] at h
        exact h
      go_wp2
      go_ret2
      exact ⟨rfl, HS.out.row.read (by rw [HS.out.len]; exact HL.out) (by rw [HS.out.len]; exact HS.out.oi) HS.out.eo, by have := HS.out.oi; have := HCP.out; omega, HS.out.below⟩
end Go.Proofs.YtfhcpniibiobgaaDoor.Qf
namespace Go.Proofs.YtfhcpniibiobgaaDoor.Qf
open Go.RowKit Go.Proofs.YtfhcpniibiobgaaDoorW.PrintWords Go.Proofs.YtfhcpniibiobgaaDoorW.PrintLast Go.Proofs.YtfhcpniibiobgaaDoorW.PrintMore
open Hs (CB CL at_L at_B infoB infoL R_of_blk)

theorem mfM (first : Value) (W : World) : (Instr.makeFunc (.method "HashChildren") #[first] #[]).run Tryd.prog W = .ok (.func (.method "HashChildren") #[first] #[]) W := rfl
set_option maxHeartbeats 4000000 in
set_option maxRecDepth 100000 in
theorem consProof_calls (a0 a1 a2 a3 a4 a5 : Int) (w0 : World) (gt : Nat) (S : Nat → Prop) (w : World) (n : Int) (vh : Value) (rv : List RV) (rows : List (List (List Int))) (s1 s2 : Int) (k : Nat) (ids : List S108) (B E : Nat) (lv ix : Int) (r : List (List Int)) (h : TSt (toyV a0 a1 a2 a3 a4 a5) w0 gt S w n vh rv rv rows) (HG_ : Glob w) (hc : proof_Consistency.f k s1 s2 = some (ids, (B : Int), (E : Int), lv, ix, none)) (hl : ids.length ≤ 1000) (hE : E ≤ ids.length) (hok : ∀ i, i < ids.length → ∃ lv ix : Nat, ids.getD i z108 = ⟨(lv : Int), (ix : Int)⟩ ∧ lv < rows.length ∧ ix < (rows.getD lv []).length) (hr : rehG a0 a1 a2 a3 a4 a5 (ids.map (nodeF rows)) B E (ids.map (nodeF rows)).length 0 [] = some r) :
    Calls Tryd.prog 73 #[.pointer (some ⟨gt, 0, none⟩), .int .u64 s1, .int .u64 s2] w fun en w' => ∃ A c, en = .returned (.tuple #[.slice A r.length c, .nilIface]) ∧ r.length ≤ c ∧ CL w' A r ∧ Below w.heap.size w w' := by
  have HT := Aside0.mk h
  have HG := Aside0.mk HG_
  have HC := Aside0.mk hc
  have HL := Aside0.mk hl
  have HE := Aside0.mk hE
  have HOK := Aside0.mk hok
  have HR := Aside0.mk hr
  clear h HG_ hc hl hE hok hr
  go_enter Tryd.func73, Tryd.ntmps73
  go_wp2_with (first
    | (go_at_call 103; (with_reducible refine (proof_Consistency.calls k s1 s2 ids (B : Int) (E : Int) lv ix none w HG.out HC.out).mono ?_); rintro en w5 ⟨v5, rfl, hQ5, hb⟩; obtain ⟨A5, c5, rfl, hl5⟩ := Kd.Q_slice hQ5; obtain ⟨_, _, hC5⟩ := Kd.V_reads' (Kd.Q_V (base' := 0) hQ5); have HC5 := Aside0.mk hC5; have HB5 := Aside0.mk hb; clear hQ5 hl5 hC5 hb; rw [show errW none = Value.nilIface from rfl]))
  have hb3 : Below w5.heap.size w5 (w5.alloc (.cells #[.slice A5 ids.length c5, .int .i64 (B : Int), .int .i64 (E : Int), .int .u64 lv, .int .u64 ix] 132)).drew := below_drew (below_alloc (Below.refl _ _) _)
  have HX := Aside0.mk (blk_drew (heap_alloc_new w5 (.cells #[.slice A5 ids.length c5, .int .i64 (B : Int), .int .i64 (E : Int), .int .u64 lv, .int .u64 ix] 132)))
  have HB := Aside0.mk (below_step HB5.out hb3)
  have HTz := Aside0.mk (HT.out.step HB.out)
  have HCz := Aside0.mk (Kd.C_below HC5.out hb3)
  refine start_ (n := 16) (S := fun w' => w'.cell? ⟨w5.heap.size, 0, none⟩ = some (.slice A5 ids.length c5) ∧ w'.cell? ⟨w5.heap.size, 1, none⟩ = some (.int .i64 (B : Int)) ∧ w'.cell? ⟨w5.heap.size, 2, none⟩ = some (.int .i64 (E : Int)) ∧ w'.cell? ⟨w5.heap.size, 3, none⟩ = some (.int .u64 lv) ∧ w'.cell? ⟨w5.heap.size, 4, none⟩ = some (.int .u64 ix) ∧ w'.cell? ⟨gt, 0, none⟩ = some (toyV a0 a1 a2 a3 a4 a5)) (ds := []) #[false, false, false, false, false, false, false, false, false, false, false, false, false, false, false, false] (by kernel_rfl) rfl rfl ⟨(blk_cell HX.out 0).trans rfl, (blk_cell HX.out 1).trans rfl, (blk_cell HX.out 2).trans rfl, (blk_cell HX.out 3).trans rfl, (blk_cell HX.out 4).trans rfl, (blk_cell HTz.out.obj 0).trans rfl⟩ (fun hHeld => ?_)
  generalize (w5.alloc (.cells #[.slice A5 ids.length c5, .int .i64 (B : Int), .int .i64 (E : Int), .int .u64 lv, .int .u64 ix] 132)).drew = wz at HX HB HTz HCz hHeld ⊢
  generalize w5.heap.size = gb at HX hHeld ⊢
  clear hb3 HB5 HC5 HT
  refine pure_ (i := 1) (N := some 20) (v := ?_) (a' := ?_) #[false, true, false, false, false, false, false, false, false, false, false, false, false, false, false, false] rfl rfl (by kernel_rfl) (fun _ _ _ h => h) (Or.inl ⟨by rfl, ?_⟩) ?_ ?_
  rotate_left
  · intro w'
    go_simp
    with_reducible rfl
  rotate_left
  · simp only [Act.put, List.setIfInBounds_toArray, List.set_cons_zero, List.set_cons_succ]
    rfl
  refine pure_ (i := 2) (N := some 21) (v := ?_) (a' := ?_) #[false, true, true, false, false, false, false, false, false, false, false, false, false, false, false, false] rfl rfl (by kernel_rfl) (fun _ _ _ h => h) (Or.inl ⟨by rfl, ?_⟩) ?_ ?_
  rotate_left
  · intro w'
    go_simp
    with_reducible rfl
  rotate_left
  · simp only [Act.put, List.setIfInBounds_toArray, List.set_cons_zero, List.set_cons_succ]
    rfl
  refine take_ (i := 0) (N := some 19) (v := ?_) (a' := ?_) #[true, true, true, false, false, false, false, false, false, false, false, false, false, false, false, false] rfl rfl (by kernel_rfl) (fun _ _ _ h => h) (Or.inl ⟨by rfl, ?_⟩) hHeld ?_ ?_
  rotate_left
  · rintro w' ⟨s0, s1, s2, s3, s4, s5⟩
    go_simp
    with_reducible rfl
  rotate_left
  · simp only [Act.put, List.setIfInBounds_toArray, List.set_cons_zero, List.set_cons_succ]
    rfl
  refine take_ (i := 3) (N := some 22) (v := ?_) (a' := ?_) #[true, true, true, true, false, false, false, false, false, false, false, false, false, false, false, false] rfl rfl (by kernel_rfl) (fun _ _ _ h => h) (Or.inl ⟨by rfl, ?_⟩) hHeld ?_ ?_
  rotate_left
  · rintro w' ⟨s0, s1, s2, s3, s4, s5⟩
    go_simp
    with_reducible rfl
  rotate_left
  · simp only [Act.put, List.setIfInBounds_toArray, List.set_cons_zero, List.set_cons_succ]
    rfl
  refine pure_ (i := 5) (N := some 24) (v := ?_) (a' := ?_) #[true, true, true, true, false, true, false, false, false, false, false, false, false, false, false, false] rfl rfl (by kernel_rfl) (fun _ _ _ h => h) (Or.inl ⟨by rfl, ?_⟩) ?_ ?_
  rotate_left
  · intro w'
    go_simp
    with_reducible rfl
  rotate_left
  · simp only [Act.put, List.setIfInBounds_toArray, List.set_cons_zero, List.set_cons_succ]
    rfl
  refine pure_ (i := 6) (N := some 25) (v := ?_) (a' := ?_) #[true, true, true, true, false, true, true, false, false, false, false, false, false, false, false, false] rfl rfl (by kernel_rfl) (fun _ _ _ h => h) (Or.inl ⟨by rfl, ?_⟩) ?_ ?_
  rotate_left
  · intro w'
    go_simp
    with_reducible rfl
  rotate_left
  · simp only [Act.put, List.setIfInBounds_toArray, List.set_cons_zero, List.set_cons_succ]
    rfl
  refine pure_ (i := 7) (N := some 26) (v := ?_) (a' := ?_) #[true, true, true, true, false, true, true, true, false, false, false, false, false, false, false, false] rfl rfl (by kernel_rfl) (fun _ _ _ h => h) (Or.inl ⟨by rfl, ?_⟩) ?_ ?_
  rotate_left
  · intro w'
    go_simp
    with_reducible rfl
  rotate_left
  · simp only [Act.put, List.setIfInBounds_toArray, List.set_cons_zero, List.set_cons_succ]
    rfl
  refine take_ (i := 8) (N := some 27) (v := ?_) (a' := ?_) #[true, true, true, true, false, true, true, true, true, false, false, false, false, false, false, false] rfl rfl (by kernel_rfl) (fun _ _ _ h => h) (Or.inl ⟨by rfl, ?_⟩) hHeld ?_ ?_
  rotate_left
  · rintro w' ⟨s0, s1, s2, s3, s4, s5⟩
    go_simp
    with_reducible rfl
  rotate_left
  · simp only [Act.put, List.setIfInBounds_toArray, List.set_cons_zero, List.set_cons_succ]
    rfl
  refine pure_ (i := 9) (N := some 28) (v := ?_) (a' := ?_) #[true, true, true, true, false, true, true, true, true, true, false, false, false, false, false, false] rfl rfl (by kernel_rfl) (fun _ _ _ h => h) (Or.inl ⟨by rfl, ?_⟩) ?_ ?_
  rotate_left
  · intro w'
    go_simp
    with_reducible rfl
  rotate_left
  · simp only [Act.put, List.setIfInBounds_toArray, List.set_cons_zero, List.set_cons_succ]
    rfl
  refine pure_ (i := 10) (N := some 29) (v := ?_) (a' := ?_) #[true, true, true, true, false, true, true, true, true, true, true, false, false, false, false, false] rfl rfl (by kernel_rfl) (fun _ _ _ h => h) (Or.inl ⟨by rfl, ?_⟩) ?_ ?_
  rotate_left
  · intro w'
    go_simp
    with_reducible rfl
  rotate_left
  · simp only [Act.put, List.setIfInBounds_toArray, List.set_cons_zero, List.set_cons_succ]
    rfl
  refine one_ (i := 4) (N := some 23) #[true, true, true, true, true, true, true, true, true, true, true, false, false, false, false, false] rfl rfl (by kernel_rfl) (by decide) (fun K hK => ?_)
  refine goes_ Tryd.func104 (by kernel_rfl) rfl #[.pointer (some ⟨gt, 0, none⟩), .slice A5 ids.length c5] (by rfl) rfl rfl (by (try simp only [List.map_toArray, List.map_cons, List.map_nil]); first | done | rfl) ?_
  refine (getNodes_calls (toyV a0 a1 a2 a3 a4 a5) w0 gt S wz n vh rv rows A5 c5 ids HTz.out HCz.out HL.out HOK.out).mono ?_
  rintro en w6 ⟨gr, cap, hv, rfl, hrow, hcp, hb⟩
  refine ⟨_, rfl, ?_⟩
  have HX6 := Aside0.mk (blk_below HX.out hb)
  have HT6 := Aside0.mk (HTz.out.step hb)
  have HB6 := Aside0.mk hb
  obtain ⟨hs, hhs⟩ : ∃ hs, hs = ids.map (nodeF rows) := ⟨_, rfl⟩
  have hlen : hs.length = ids.length := by rw [hhs, List.length_map]
  rw [← hhs] at hrow HR
  have HRW := Aside0.mk hrow
  have HCP := Aside0.mk hcp
  have HLN := Aside0.mk hlen
  clear hrow hcp hb hlen hhs HCz hHeld
  refine hK.out _ _ ⟨(blk_cell HX6.out 0).trans rfl, (blk_cell HX6.out 1).trans rfl, (blk_cell HX6.out 2).trans rfl, (blk_cell HX6.out 3).trans rfl, (blk_cell HX6.out 4).trans rfl, (blk_cell HT6.out.obj 0).trans rfl⟩ (fun hHeld => ?_)
  clear hK K
  refine norm_ (a' := ?_) ?_ ?_
  rotate_left
  · show Act.put _ (some 23) _ = _
    simp only [Act.put, List.setIfInBounds_toArray, List.set_cons_zero, List.set_cons_succ]
    rfl
  refine one_ (i := 11) (N := some 30) #[true, true, true, true, true, true, true, true, true, true, true, true, false, false, false, false] rfl rfl (by kernel_rfl) (by decide) (fun K hK => ?_)
  refine goes_ Tryd.func82 (by kernel_rfl) rfl #[.agg #[.slice A5 ids.length c5, .int .i64 (B : Int), .int .i64 (E : Int), .int .u64 lv, .int .u64 ix], .slice (some ⟨gr, 0, none⟩) ids.length cap, .func (.method "HashChildren") #[toyV a0 a1 a2 a3 a4 a5] #[]] (by rfl) rfl rfl (by (try simp only [List.map_toArray, List.map_cons, List.map_nil]); first | done | rfl) ?_
  rw [← HLN.out] at HCP ⊢
  refine (rehash_calls a0 a1 a2 a3 a4 a5 wz w6 gr cap hv hs A5 c5 B E lv ix r HB6.out HRW.out HCP.out (by rw [HLN.out]; exact HL.out) (by rw [HLN.out]; exact HE.out) HR.out).mono ?_
  rintro en w7 ⟨rfl, hC7, hc7, hb⟩
  refine ⟨_, rfl, ?_⟩
  have HC7 := Aside0.mk hC7
  have HL7 := Aside0.mk hc7
  have HB7 := Aside0.mk (below_step HB.out hb)
  have HX7 := Aside0.mk (blk_below HX.out hb)
  have HT7 := Aside0.mk (HTz.out.step hb)
  clear hC7 hc7 hHeld HRW HT6 HX6 HB6 HB HX HTz hb
  refine hK.out _ _ ⟨(blk_cell HX7.out 0).trans rfl, (blk_cell HX7.out 1).trans rfl, (blk_cell HX7.out 2).trans rfl, (blk_cell HX7.out 3).trans rfl, (blk_cell HX7.out 4).trans rfl, (blk_cell HT7.out.obj 0).trans rfl⟩ (fun hHeld => ?_)
  clear hK K
  refine norm_ (a' := ?_) ?_ ?_
  rotate_left
  · show Act.put _ (some 30) _ = _
    simp only [Act.put, List.setIfInBounds_toArray, List.set_cons_zero, List.set_cons_succ]
    rfl
  refine pure_ (i := 12) (N := some 31) (v := ?_) (a' := ?_) #[true, true, true, true, true, true, true, true, true, true, true, true, true, false, false, false] rfl rfl (by kernel_rfl) (fun _ _ _ h => h) (Or.inl ⟨by rfl, ?_⟩) ?_ ?_
  rotate_left
  · intro w'
    go_simp
    with_reducible rfl
  rotate_left
  · simp only [Act.put, List.setIfInBounds_toArray, List.set_cons_zero, List.set_cons_succ]
    rfl
  refine pure_ (i := 13) (N := some 32) (v := ?_) (a' := ?_) #[true, true, true, true, true, true, true, true, true, true, true, true, true, true, false, false] rfl rfl (by kernel_rfl) (fun _ _ _ h => h) (Or.inl ⟨by rfl, ?_⟩) ?_ ?_
  rotate_left
  · intro w'
    go_simp
    with_reducible rfl
  rotate_left
  · simp only [Act.put, List.setIfInBounds_toArray, List.set_cons_zero, List.set_cons_succ]
    rfl
  refine pure_ (i := 14) (N := some 6) (v := ?_) (a' := ?_) #[true, true, true, true, true, true, true, true, true, true, true, true, true, true, true, false] rfl rfl (by kernel_rfl) (fun _ _ _ h => h) (Or.inl ⟨by rfl, ?_⟩) ?_ ?_
  rotate_left
  · intro w'
    go_simp
    with_reducible rfl
  rotate_left
  · simp only [Act.put, List.setIfInBounds_toArray, List.set_cons_zero, List.set_cons_succ]
    rfl
  refine pure_ (i := 15) (N := some 7) (v := ?_) (a' := ?_) #[true, true, true, true, true, true, true, true, true, true, true, true, true, true, true, true] rfl rfl (by kernel_rfl) (fun _ _ _ h => h) (Or.inl ⟨by rfl, ?_⟩) ?_ ?_
  rotate_left
  · intro w'
    go_simp
    with_reducible rfl
  rotate_left
  · simp only [Act.put, List.setIfInBounds_toArray, List.set_cons_zero, List.set_cons_succ]
    rfl
  refine done_ (by kernel_rfl) ?_
  go_wp2
  go_ret2
  exact ⟨_, _, rfl, HL7.out, HC7.out, HB7.out⟩
end Go.Proofs.YtfhcpniibiobgaaDoor.Qf
namespace Go.Proofs.YtfhcpniibiobgaaDoor.Qf
open Go.RowKit Go.Proofs.YtfhcpniibiobgaaDoorW.PrintWords Go.Proofs.YtfhcpniibiobgaaDoorW.PrintLast Go.Proofs.YtfhcpniibiobgaaDoorW.PrintMore
open Hs (CB CL at_L at_B infoB infoL R_of_blk)

set_option maxHeartbeats 2000000 in
set_option maxRecDepth 100000 in
theorem tc_no (a0 a1 a2 a3 a4 a5 : Int) (A : Option Addr) (n c : Nat) (s1 s2 : Nat) (w : World) (hn : n ≤ 2147483647) (h : n < s2 ∨ s2 < s1) :
    Calls Tryd.prog 34 #[.agg #[.int .i64 a0, .int .i64 a1, .int .i64 a2, .int .u64 a3, .int .u64 a4, .int .u64 a5], .slice A n c, .int .u64 (s1 : Int), .int .u64 (s2 : Int)] w fun en w' => en = .returned (.tuple #[.slice none 0 0, .bool false]) ∧ Below w.heap.size w w' := by
  have HN := Aside0.mk hn
  clear hn
  have hw : ∀ z : Int, z = (n : Int) → IntKind.u64.wrap z = (n : Int) := fun z hz => by
    rw [hz]
    show (n : Int) % 18446744073709551616 = _
    have := HN.out
    omega
  have HB : Aside0 (Below w.heap.size w (w.alloc (.cells #[.int .i64 a0, .int .i64 a1, .int .i64 a2, .int .u64 a3, .int .u64 a4, .int .u64 a5] 24))) := ⟨below_alloc (Below.refl _ _) _⟩
  by_cases h1 : n < s2
  · have p1 : decide (n < s2) = true := decide_eq_true h1
    have p1i : decide ((n : Int) < (s2 : Int)) = true := decide_eq_true (by omega)
    clear h
    go_enter Tryd.func34, Tryd.ntmps34
    go_wp2
    go_ret2
    exact ⟨rfl, HB.out⟩
  · have p1 : decide (n < s2) = false := decide_eq_false h1
    have p1i : decide ((n : Int) < (s2 : Int)) = false := decide_eq_false (by omega)
    have p2 : decide (s2 < s1) = true := decide_eq_true (by omega)
    have p2i : decide ((s2 : Int) < (s1 : Int)) = true := decide_eq_true (by omega)
    clear h
    go_enter Tryd.func34, Tryd.ntmps34
    go_wp2
    go_ret2
    exact ⟨rfl, HB.out⟩
set_option maxHeartbeats 4000000 in
set_option maxRecDepth 100000 in
theorem tc_yes (a0 a1 a2 a3 a4 a5 : Int) (A : Option Addr) (c : Nat) (M : List (List Int)) (s1 s2 : Nat) (w : World) (k : Nat) (rs : Nat → List (List (List Int))) (r : List (List Int)) (hM : CL w A M) (hc : M.length ≤ c) (HG_ : Glob w) (h2 : s2 ≤ M.length) (h1 : s1 ≤ s2) (ht : impl_texts.f k M = some M) (hMl : M.length ≤ 300) (hst : ∀ j, j < M.length → TStep a0 a1 a2 a3 a4 a5 j (rs j) (M.getD j []) (rs (j + 1))) (hr0 : rs 0 = []) (k2 : Nat) (ht2 : impl_texts.f k2 r = some r)
    (hCP : ∀ (w0 : World) (gt : Nat) (S : Nat → Prop) (w1 : World) (vh : Value) (rv : List RV), TSt (toyV a0 a1 a2 a3 a4 a5) w0 gt S w1 (M.length : Int) vh rv rv (rs M.length) → Glob w1 → Calls Tryd.prog 73 #[.pointer (some ⟨gt, 0, none⟩), .int .u64 (s1 : Int), .int .u64 (s2 : Int)] w1 fun en w' => ∃ A c, en = .returned (.tuple #[.slice A r.length c, .nilIface]) ∧ r.length ≤ c ∧ CL w' A r ∧ Below w1.heap.size w1 w') :
    Calls Tryd.prog 34 #[.agg #[.int .i64 a0, .int .i64 a1, .int .i64 a2, .int .u64 a3, .int .u64 a4, .int .u64 a5], .slice A M.length c, .int .u64 (s1 : Int), .int .u64 (s2 : Int)] w fun en w' => ∃ Ar cr, en = .returned (.tuple #[.slice Ar r.length cr, .bool true]) ∧ r.length ≤ cr ∧ CL w' Ar r ∧ Below w.heap.size w w' := by
  have HM := Aside0.mk hM
  have HG := Aside0.mk HG_
  have HTX := Aside0.mk ht
  have HTX2 := Aside0.mk ht2
  have HML := Aside0.mk hMl
  have HST := Aside0.mk hst
  have HR0 := Aside0.mk hr0
  have HCP := Aside0.mk hCP
  clear hM HG_ ht ht2 hMl hst hr0 hCP
  have p1 : decide (M.length < s2) = false := decide_eq_false (by omega)
  have p1i : decide ((M.length : Int) < (s2 : Int)) = false := decide_eq_false (by omega)
  have p2 : decide (s2 < s1) = false := decide_eq_false (by omega)
  have p2i : decide ((s2 : Int) < (s1 : Int)) = false := decide_eq_false (by omega)
  have hw : ∀ z : Int, z = (M.length : Int) → IntKind.u64.wrap z = (M.length : Int) := fun z hz => by
    rw [hz]
    show (M.length : Int) % 18446744073709551616 = _
    have := HML.out
    omega
  clear h1 h2
  have HBx : Aside0 (Below w.heap.size w (w.alloc (.cells #[.int .i64 a0, .int .i64 a1, .int .i64 a2, .int .u64 a3, .int .u64 a4, .int .u64 a5] 24))) := ⟨below_alloc (Below.refl _ _) _⟩
  have hsx : (w.alloc (.cells #[.int .i64 a0, .int .i64 a1, .int .i64 a2, .int .u64 a3, .int .u64 a4, .int .u64 a5] 24)).heap.size = w.heap.size + 1 := by simp
  go_enter Tryd.func34, Tryd.ntmps34
  go_wp2_with (first
    | (go_at_call 46; (with_reducible refine (tNew_calls (.agg #[.int .i64 a0, .int .i64 a1, .int .i64 a2, .int .u64 a3, .int .u64 a4, .int .u64 a5]) _).mono ?_); rintro en w2 ⟨rfl, hw2⟩; have HI := Aside0.mk (TSt.init (toyV a0 a1 a2 a3 a4 a5) w (w.alloc (.cells #[.int .i64 a0, .int .i64 a1, .int .i64 a2, .int .u64 a3, .int .u64 a4, .int .u64 a5] 24)) HBx.out); rw [show (w.alloc (.cells #[.int .i64 a0, .int .i64 a1, .int .i64 a2, .int .u64 a3, .int .u64 a4, .int .u64 a5] 24)).alloc (.cells #[toyV a0 a1 a2 a3 a4 a5, .int .u64 0, .slice none 0 0] 143) = w2 from hw2.symm] at HI; clear hw2; generalize (w.alloc (.cells #[.int .i64 a0, .int .i64 a1, .int .i64 a2, .int .u64 a3, .int .u64 a4, .int .u64 a5] 24)).heap.size = gt at HI ⊢)
    | (go_at_call 48; (with_reducible refine (impl_texts.calls k A c M M _ (Kd.C_below HM.out HI.out.below) hc HTX.out).mono ?_); rintro e' w3 ⟨v3, rfl, hS, hb⟩; obtain ⟨A3, d3, rfl, hd3, hLR⟩ := LRow.new HI.out.top hS; have HLR := Aside0.mk hLR; have HI3 := Aside0.mk (HI.out.step hb); clear hS hb hLR hd3)
    | (go_at_call 72; (with_reducible refine (tHashes_calls a0 a1 a2 a3 a4 a5 w gt (fun q => q = gt) w3 (.slice none 0 0) [] A3 d3 M rs (by rw [HR0.out]; exact HI3.out) HLR.out HML.out HST.out).mono ?_); rintro en w5 ⟨v5, vh5, rv5, S5, rfl, hT5, _, _⟩; have HT5 := Aside0.mk hT5; clear hT5)
    | (go_at_call 73; (with_reducible refine (HCP.out w gt S5 _ vh5 rv5 HT5.out (Glob.below HG.out HT5.out.below)).mono ?_); rintro en w8 ⟨A8, c8, rfl, h8, hC8, hb⟩; have H8 := Aside0.mk h8; have HC8 := Aside0.mk hC8; have HB8 := Aside0.mk (below_step HT5.out.below hb); clear h8 hC8 hb))
  -- region 6
  have hb3 : Below w8.heap.size w8 w8.drew := below_drew (Below.refl _ _)
  have HBz := Aside0.mk (below_step HB8.out hb3)
  have HCz := Aside0.mk (Kd.C_below HC8.out hb3)
  refine start_ (n := 6) (S := fun _ => True) (ds := []) #[false, false, false, false, false, false] (by kernel_rfl) rfl rfl trivial (fun hHeld => ?_)
  generalize w8.drew = wz at HBz HCz hHeld ⊢
  clear hb3 HB8 HC8
  refine pure_ (i := 0) (N := some 38) (v := ?_) (a' := ?_) #[true, false, false, false, false, false] rfl rfl (by kernel_rfl) (fun _ _ _ h => h) (Or.inl ⟨by rfl, ?_⟩) ?_ ?_
  rotate_left
  · intro w'
    go_simp
    with_reducible rfl
  rotate_left
  · simp only [Act.put, List.setIfInBounds_toArray, List.set_cons_zero, List.set_cons_succ]
    rfl
  refine pure_ (i := 2) (N := some 40) (v := ?_) (a' := ?_) #[true, false, true, false, false, false] rfl rfl (by kernel_rfl) (fun _ _ _ h => h) (Or.inl ⟨by rfl, ?_⟩) ?_ ?_
  rotate_left
  · intro w'
    go_simp
    with_reducible rfl
  rotate_left
  · simp only [Act.put, List.setIfInBounds_toArray, List.set_cons_zero, List.set_cons_succ]
    rfl
  refine pure_ (i := 3) (N := some 41) (v := ?_) (a' := ?_) #[true, false, true, true, false, false] rfl rfl (by kernel_rfl) (fun _ _ _ h => h) (Or.inl ⟨by rfl, ?_⟩) ?_ ?_
  rotate_left
  · intro w'
    go_simp
    with_reducible rfl
  rotate_left
  · simp only [Act.put, List.setIfInBounds_toArray, List.set_cons_zero, List.set_cons_succ]
    rfl
  refine one_ (i := 1) (N := some 39) #[true, true, true, true, false, false] rfl rfl (by kernel_rfl) (by decide) (fun K hK => ?_)
  refine goes_ Tryd.func48 (by kernel_rfl) rfl #[.slice A8 r.length c8] (by rfl) rfl rfl (by (try simp only [List.map_toArray, List.map_cons, List.map_nil]); first | done | rfl) ?_
  refine (impl_texts.calls k2 A8 c8 r r wz HCz.out H8.out HTX2.out).mono ?_
  rintro en w9 ⟨v9, rfl, hS9, hb⟩
  refine ⟨_, rfl, ?_⟩
  obtain ⟨A9, c9, rfl, h9, hC9⟩ := Kd.S_reads hS9
  have H9 := Aside0.mk h9
  have HC9 := Aside0.mk hC9
  have HB9 := Aside0.mk (below_step HBz.out hb)
  clear hS9 hb h9 hC9 HBz HCz hHeld
  refine hK.out _ _ trivial (fun hHeld => ?_)
  clear hK K
  refine norm_ (a' := ?_) ?_ ?_
  rotate_left
  · show Act.put _ (some 39) _ = _
    simp only [Act.put, List.setIfInBounds_toArray, List.set_cons_zero, List.set_cons_succ]
    rfl
  refine pure_ (i := 4) (N := some 8) (v := ?_) (a' := ?_) #[true, true, true, true, true, false] rfl rfl (by kernel_rfl) (fun _ _ _ h => h) (Or.inl ⟨by rfl, ?_⟩) ?_ ?_
  rotate_left
  · intro w'
    go_simp
    with_reducible rfl
  rotate_left
  · simp only [Act.put, List.setIfInBounds_toArray, List.set_cons_zero, List.set_cons_succ]
    rfl
  refine pure_ (i := 5) (N := some 9) (v := ?_) (a' := ?_) #[true, true, true, true, true, true] rfl rfl (by kernel_rfl) (fun _ _ _ h => h) (Or.inl ⟨by rfl, ?_⟩) ?_ ?_
  rotate_left
  · intro w'
    go_simp
    with_reducible rfl
  rotate_left
  · simp only [Act.put, List.setIfInBounds_toArray, List.set_cons_zero, List.set_cons_succ]
    rfl
  refine done_ (by kernel_rfl) ?_
  go_wp2
  -- behind region 6
  go_ret2
  exact ⟨A9, c9, rfl, H9.out, HC9.out, HB9.out⟩
end Go.Proofs.YtfhcpniibiobgaaDoor.Qf
namespace Go.Proofs.YtfhcpniibiobgaaDoor.Qf
open Go.RowKit Go.Proofs.YtfhcpniibiobgaaDoorW.PrintWords Go.Proofs.YtfhcpniibiobgaaDoorW.PrintLast Go.Proofs.YtfhcpniibiobgaaDoorW.PrintMore
open Hs (CB CL at_L at_B infoB infoL R_of_blk)

theorem box6 {w : World} {g : Nat} {a0 a1 a2 a3 a4 a5 : Int} (h : w.heap[g]? = some (.cells #[.int .i64 a0, .int .i64 a1, .int .i64 a2, .int .u64 a3, .int .u64 a4, .int .u64 a5] 24 (0, 0))) : w.cell? ⟨g, 0, none⟩ = some (.int .i64 a0) ∧ w.cell? ⟨g, 1, none⟩ = some (.int .i64 a1) ∧ w.cell? ⟨g, 2, none⟩ = some (.int .i64 a2) ∧ w.cell? ⟨g, 3, none⟩ = some (.int .u64 a3) ∧ w.cell? ⟨g, 4, none⟩ = some (.int .u64 a4) ∧ w.cell? ⟨g, 5, none⟩ = some (.int .u64 a5) :=
  ⟨(blk_cell h 0).trans rfl, (blk_cell h 1).trans rfl, (blk_cell h 2).trans rfl, (blk_cell h 3).trans rfl, (blk_cell h 4).trans rfl, (blk_cell h 5).trans rfl⟩
/-- The reference's proof of rows that came in. -/
theorem proof_arg {k : Nat} {a0 a1 a2 a3 a4 a5 s1 : Int} {A : Option Addr} {c : Nat} {L : List (List Int)} {r : List (List Int)} {w : World} (h : CL w A L) (hc : L.length ≤ c) (hr : spec_Proof.f k a0 a1 a2 a3 a4 a5 L s1 = some r) :
    Calls Tryd.prog 35 #[.agg #[.int .i64 a0, .int .i64 a1, .int .i64 a2, .int .u64 a3, .int .u64 a4, .int .u64 a5], .slice A L.length c, .int .u64 s1] w fun en w' => ∃ A' c', en = .returned (.slice A' r.length c') ∧ r.length ≤ c' ∧ CL w' A' r ∧ Below w.heap.size w w' :=
  (spec_Proof.calls k a0 a1 a2 a3 a4 a5 (fun k => k < w.heap.size) A c L s1 r w (Kd.V_mk hc (Kd.C_F (Kd.heap_slice _ (Kd.heap_int _)) h)) hr).mono fun _ _ ⟨v, he, hv, hb⟩ => by
    have hv := Kd.N_V (base' := 0) hv
    obtain ⟨A', c', rfl⟩ := Kd.V_slice hv
    obtain ⟨_, h2, h3⟩ := Kd.V_reads' hv
    exact ⟨A', c', he, h2, h3, hb⟩

set_option maxHeartbeats 2000000 in
set_option maxRecDepth 100000 in
theorem tcl1 (K : Nat) (a0 a1 a2 a3 a4 a5 : Int) (A : Option Addr) (c : Nat) (L : List (List Int)) (s1 s2 : Nat) (w : World) (h1 : CL w A L) (e1 : L.length ≤ c) (zz : laws_zzFits2.f K L = some false) :
    Calls Tryd.prog 9 #[.agg #[.int .i64 a0, .int .i64 a1, .int .i64 a2, .int .u64 a3, .int .u64 a4, .int .u64 a5], .slice A L.length c, .int .u64 (s1 : Int), .int .u64 (s2 : Int)] w fun en w' => en = .returned (.bool true) ∧ Below w.heap.size w w' := by
  have H1 := Aside0.mk h1
  clear h1
  have _u := And.intro e1 (Eq.refl K)
  clear _u
  have HB : Aside0 (Below w.heap.size w (w.alloc (.cells #[.int .i64 a0, .int .i64 a1, .int .i64 a2, .int .u64 a3, .int .u64 a4, .int .u64 a5] 24))) := ⟨below_alloc (Below.refl _ _) _⟩
  have HX : Aside0 ((w.alloc (.cells #[.int .i64 a0, .int .i64 a1, .int .i64 a2, .int .u64 a3, .int .u64 a4, .int .u64 a5] 24)).heap[w.heap.size]? = some (.cells #[.int .i64 a0, .int .i64 a1, .int .i64 a2, .int .u64 a3, .int .u64 a4, .int .u64 a5] 24 (0, 0))) := ⟨heap_alloc_new w (.cells #[.int .i64 a0, .int .i64 a1, .int .i64 a2, .int .u64 a3, .int .u64 a4, .int .u64 a5] 24)⟩
  have ZZ := Aside0.mk zz
  clear zz
  go_enter Tryd.func9, Tryd.ntmps9
  go_wp2_with fail
  go_wp2_with (first
    | (go_at_call 13; (with_reducible refine (laws_zzFits2.calls K A c L _ _ (Kd.C_below H1.out HB.out) e1 ZZ.out).mono ?_); rintro en wz ⟨rfl, hd⟩; (first | have hb := hd.below | have hb := hd); clear hd; have HB1 := Aside0.mk (below_then HB.out HB.out.size hb); have HX1 := Aside0.mk (blk_below HX.out hb); clear HB HX hb; have HB := HB1; have HX := HX1; clear HB1 HX1; (try clear hk0 hk1 hk2 hk3 hk4 hk5); obtain ⟨hk0, hk1, hk2, hk3, hk4, hk5⟩ := box6 HX.out))
  go_ret
  exact ⟨rfl, HB.out⟩

set_option maxHeartbeats 2000000 in
set_option maxRecDepth 100000 in
theorem tcl2 (K : Nat) (a0 a1 a2 a3 a4 a5 : Int) (A : Option Addr) (c : Nat) (L : List (List Int)) (s1 s2 : Nat) (w : World) (h1 : CL w A L) (e1 : L.length ≤ c) (zz : laws_zzFits2.f K L = some true) (pp : laws_logSmall.f K L = some false) :
    Calls Tryd.prog 9 #[.agg #[.int .i64 a0, .int .i64 a1, .int .i64 a2, .int .u64 a3, .int .u64 a4, .int .u64 a5], .slice A L.length c, .int .u64 (s1 : Int), .int .u64 (s2 : Int)] w fun en w' => en = .returned (.bool true) ∧ Below w.heap.size w w' := by
  have H1 := Aside0.mk h1
  clear h1
  have _u := And.intro e1 (Eq.refl K)
  clear _u
  have HB : Aside0 (Below w.heap.size w (w.alloc (.cells #[.int .i64 a0, .int .i64 a1, .int .i64 a2, .int .u64 a3, .int .u64 a4, .int .u64 a5] 24))) := ⟨below_alloc (Below.refl _ _) _⟩
  have HX : Aside0 ((w.alloc (.cells #[.int .i64 a0, .int .i64 a1, .int .i64 a2, .int .u64 a3, .int .u64 a4, .int .u64 a5] 24)).heap[w.heap.size]? = some (.cells #[.int .i64 a0, .int .i64 a1, .int .i64 a2, .int .u64 a3, .int .u64 a4, .int .u64 a5] 24 (0, 0))) := ⟨heap_alloc_new w (.cells #[.int .i64 a0, .int .i64 a1, .int .i64 a2, .int .u64 a3, .int .u64 a4, .int .u64 a5] 24)⟩
  have ZZ := Aside0.mk zz
  clear zz
  have PP := Aside0.mk pp
  clear pp
  go_enter Tryd.func9, Tryd.ntmps9
  go_wp2_with fail
  go_wp2_with (first
    | (go_at_call 13; (with_reducible refine (laws_zzFits2.calls K A c L _ _ (Kd.C_below H1.out HB.out) e1 ZZ.out).mono ?_); rintro en wz ⟨rfl, hd⟩; (first | have hb := hd.below | have hb := hd); clear hd; have HB1 := Aside0.mk (below_then HB.out HB.out.size hb); have HX1 := Aside0.mk (blk_below HX.out hb); clear HB HX hb; have HB := HB1; have HX := HX1; clear HB1 HX1; (try clear hk0 hk1 hk2 hk3 hk4 hk5); obtain ⟨hk0, hk1, hk2, hk3, hk4, hk5⟩ := box6 HX.out)
    | (go_at_call 15; (with_reducible refine (laws_logSmall.calls K A c L _ _ (Kd.C_below H1.out HB.out) e1 PP.out).mono ?_); rintro en wp ⟨rfl, hd⟩; (first | have hb := hd.below | have hb := hd); clear hd; have HB1 := Aside0.mk (below_then HB.out HB.out.size hb); have HX1 := Aside0.mk (blk_below HX.out hb); clear HB HX hb; have HB := HB1; have HX := HX1; clear HB1 HX1; (try clear hk0 hk1 hk2 hk3 hk4 hk5); obtain ⟨hk0, hk1, hk2, hk3, hk4, hk5⟩ := box6 HX.out))
  go_ret
  exact ⟨rfl, HB.out⟩

set_option maxHeartbeats 2000000 in
set_option maxRecDepth 100000 in
theorem tcl3 (K : Nat) (a0 a1 a2 a3 a4 a5 : Int) (A : Option Addr) (c : Nat) (L : List (List Int)) (s1 s2 : Nat) (w : World) (h1 : CL w A L) (e1 : L.length ≤ c) (zz : laws_zzFits2.f K L = some true) (pp : laws_logSmall.f K L = some true) (hml : L.length ≤ 2147483647) (p1 : decide (s2 < s1) = true) (p1i : decide ((s2 : Int) < (s1 : Int)) = true) (tc : ∀ W : World, Below w.heap.size w W → Calls Tryd.prog 34 #[.agg #[.int .i64 a0, .int .i64 a1, .int .i64 a2, .int .u64 a3, .int .u64 a4, .int .u64 a5], .slice A L.length c, .int .u64 (s1 : Int), .int .u64 (s2 : Int)] W fun en w' => en = .returned (.tuple #[.slice none 0 0, .bool false]) ∧ Below W.heap.size W w') :
    Calls Tryd.prog 9 #[.agg #[.int .i64 a0, .int .i64 a1, .int .i64 a2, .int .u64 a3, .int .u64 a4, .int .u64 a5], .slice A L.length c, .int .u64 (s1 : Int), .int .u64 (s2 : Int)] w fun en w' => en = .returned (.bool true) ∧ Below w.heap.size w w' := by
  have H1 := Aside0.mk h1
  clear h1
  have _u := And.intro e1 (Eq.refl K)
  clear _u
  have HB : Aside0 (Below w.heap.size w (w.alloc (.cells #[.int .i64 a0, .int .i64 a1, .int .i64 a2, .int .u64 a3, .int .u64 a4, .int .u64 a5] 24))) := ⟨below_alloc (Below.refl _ _) _⟩
  have HX : Aside0 ((w.alloc (.cells #[.int .i64 a0, .int .i64 a1, .int .i64 a2, .int .u64 a3, .int .u64 a4, .int .u64 a5] 24)).heap[w.heap.size]? = some (.cells #[.int .i64 a0, .int .i64 a1, .int .i64 a2, .int .u64 a3, .int .u64 a4, .int .u64 a5] 24 (0, 0))) := ⟨heap_alloc_new w (.cells #[.int .i64 a0, .int .i64 a1, .int .i64 a2, .int .u64 a3, .int .u64 a4, .int .u64 a5] 24)⟩
  have ZZ := Aside0.mk zz
  clear zz
  have PP := Aside0.mk pp
  clear pp
  have TC := Aside0.mk tc
  clear tc
  have ML := Aside0.mk hml
  clear hml
  have hw : ∀ z : Int, z = (L.length : Int) → IntKind.u64.wrap z = (L.length : Int) := fun z hz => by
    rw [hz]
    show (L.length : Int) % 18446744073709551616 = _
    have := ML.out
    omega
  have _v := And.intro p1 (And.intro p1i (Eq.refl K))
  clear _v
  go_enter Tryd.func9, Tryd.ntmps9
  go_wp2_with fail
  go_wp2_with (first
    | (go_at_call 13; (with_reducible refine (laws_zzFits2.calls K A c L _ _ (Kd.C_below H1.out HB.out) e1 ZZ.out).mono ?_); rintro en wz ⟨rfl, hd⟩; (first | have hb := hd.below | have hb := hd); clear hd; have HB1 := Aside0.mk (below_then HB.out HB.out.size hb); have HX1 := Aside0.mk (blk_below HX.out hb); clear HB HX hb; have HB := HB1; have HX := HX1; clear HB1 HX1; (try clear hk0 hk1 hk2 hk3 hk4 hk5); obtain ⟨hk0, hk1, hk2, hk3, hk4, hk5⟩ := box6 HX.out)
    | (go_at_call 15; (with_reducible refine (laws_logSmall.calls K A c L _ _ (Kd.C_below H1.out HB.out) e1 PP.out).mono ?_); rintro en wp ⟨rfl, hd⟩; (first | have hb := hd.below | have hb := hd); clear hd; have HB1 := Aside0.mk (below_then HB.out HB.out.size hb); have HX1 := Aside0.mk (blk_below HX.out hb); clear HB HX hb; have HB := HB1; have HX := HX1; clear HB1 HX1; (try clear hk0 hk1 hk2 hk3 hk4 hk5); obtain ⟨hk0, hk1, hk2, hk3, hk4, hk5⟩ := box6 HX.out))
  go_wp2_with (first
    | (go_at_call 34; (with_reducible refine (TC.out _ HB.out).mono ?_); rintro en wt ⟨rfl, hb⟩; have HB1 := Aside0.mk (below_then HB.out HB.out.size hb); have HX1 := Aside0.mk (blk_below HX.out hb); clear HB HX hb; have HB := HB1; have HX := HX1; clear HB1 HX1; (try clear hk0 hk1 hk2 hk3 hk4 hk5); obtain ⟨hk0, hk1, hk2, hk3, hk4, hk5⟩ := box6 HX.out))
  go_ret
  exact ⟨rfl, HB.out⟩

set_option maxHeartbeats 2000000 in
set_option maxRecDepth 100000 in
theorem tcl4 (K : Nat) (a0 a1 a2 a3 a4 a5 : Int) (A : Option Addr) (c : Nat) (L : List (List Int)) (s1 s2 : Nat) (w : World) (h1 : CL w A L) (e1 : L.length ≤ c) (zz : laws_zzFits2.f K L = some true) (pp : laws_logSmall.f K L = some true) (hml : L.length ≤ 2147483647) (p1 : decide (s2 < s1) = false) (p1i : decide ((s2 : Int) < (s1 : Int)) = false) (p2 : decide (L.length < s2) = true) (p2i : decide ((L.length : Int) < (s2 : Int)) = true) (tc : ∀ W : World, Below w.heap.size w W → Calls Tryd.prog 34 #[.agg #[.int .i64 a0, .int .i64 a1, .int .i64 a2, .int .u64 a3, .int .u64 a4, .int .u64 a5], .slice A L.length c, .int .u64 (s1 : Int), .int .u64 (s2 : Int)] W fun en w' => en = .returned (.tuple #[.slice none 0 0, .bool false]) ∧ Below W.heap.size W w') :
    Calls Tryd.prog 9 #[.agg #[.int .i64 a0, .int .i64 a1, .int .i64 a2, .int .u64 a3, .int .u64 a4, .int .u64 a5], .slice A L.length c, .int .u64 (s1 : Int), .int .u64 (s2 : Int)] w fun en w' => en = .returned (.bool true) ∧ Below w.heap.size w w' := by
  have H1 := Aside0.mk h1
  clear h1
  have _u := And.intro e1 (Eq.refl K)
  clear _u
  have HB : Aside0 (Below w.heap.size w (w.alloc (.cells #[.int .i64 a0, .int .i64 a1, .int .i64 a2, .int .u64 a3, .int .u64 a4, .int .u64 a5] 24))) := ⟨below_alloc (Below.refl _ _) _⟩
  have HX : Aside0 ((w.alloc (.cells #[.int .i64 a0, .int .i64 a1, .int .i64 a2, .int .u64 a3, .int .u64 a4, .int .u64 a5] 24)).heap[w.heap.size]? = some (.cells #[.int .i64 a0, .int .i64 a1, .int .i64 a2, .int .u64 a3, .int .u64 a4, .int .u64 a5] 24 (0, 0))) := ⟨heap_alloc_new w (.cells #[.int .i64 a0, .int .i64 a1, .int .i64 a2, .int .u64 a3, .int .u64 a4, .int .u64 a5] 24)⟩
  have ZZ := Aside0.mk zz
  clear zz
  have PP := Aside0.mk pp
  clear pp
  have TC := Aside0.mk tc
  clear tc
  have ML := Aside0.mk hml
  clear hml
  have hw : ∀ z : Int, z = (L.length : Int) → IntKind.u64.wrap z = (L.length : Int) := fun z hz => by
    rw [hz]
    show (L.length : Int) % 18446744073709551616 = _
    have := ML.out
    omega
  have _v := And.intro p1 (And.intro p1i (And.intro p2 (And.intro p2i (Eq.refl K))))
  clear _v
  go_enter Tryd.func9, Tryd.ntmps9
  go_wp2_with fail
  go_wp2_with (first
    | (go_at_call 13; (with_reducible refine (laws_zzFits2.calls K A c L _ _ (Kd.C_below H1.out HB.out) e1 ZZ.out).mono ?_); rintro en wz ⟨rfl, hd⟩; (first | have hb := hd.below | have hb := hd); clear hd; have HB1 := Aside0.mk (below_then HB.out HB.out.size hb); have HX1 := Aside0.mk (blk_below HX.out hb); clear HB HX hb; have HB := HB1; have HX := HX1; clear HB1 HX1; (try clear hk0 hk1 hk2 hk3 hk4 hk5); obtain ⟨hk0, hk1, hk2, hk3, hk4, hk5⟩ := box6 HX.out)
    | (go_at_call 15; (with_reducible refine (laws_logSmall.calls K A c L _ _ (Kd.C_below H1.out HB.out) e1 PP.out).mono ?_); rintro en wp ⟨rfl, hd⟩; (first | have hb := hd.below | have hb := hd); clear hd; have HB1 := Aside0.mk (below_then HB.out HB.out.size hb); have HX1 := Aside0.mk (blk_below HX.out hb); clear HB HX hb; have HB := HB1; have HX := HX1; clear HB1 HX1; (try clear hk0 hk1 hk2 hk3 hk4 hk5); obtain ⟨hk0, hk1, hk2, hk3, hk4, hk5⟩ := box6 HX.out))
  go_wp2_with (first
    | (go_at_call 34; (with_reducible refine (TC.out _ HB.out).mono ?_); rintro en wt ⟨rfl, hb⟩; have HB1 := Aside0.mk (below_then HB.out HB.out.size hb); have HX1 := Aside0.mk (blk_below HX.out hb); clear HB HX hb; have HB := HB1; have HX := HX1; clear HB1 HX1; (try clear hk0 hk1 hk2 hk3 hk4 hk5); obtain ⟨hk0, hk1, hk2, hk3, hk4, hk5⟩ := box6 HX.out))
  go_ret
  exact ⟨rfl, HB.out⟩

set_option maxHeartbeats 2000000 in
set_option maxRecDepth 100000 in
theorem tcl5 (K : Nat) (a0 a1 a2 a3 a4 a5 : Int) (A : Option Addr) (c : Nat) (L : List (List Int)) (s1 s2 : Nat) (w : World) (h1 : CL w A L) (e1 : L.length ≤ c) (zz : laws_zzFits2.f K L = some true) (pp : laws_logSmall.f K L = some true) (hml : L.length ≤ 2147483647) (p1 : decide (s2 < s1) = false) (p1i : decide ((s2 : Int) < (s1 : Int)) = false) (p2 : decide (L.length < s2) = false) (p2i : decide ((L.length : Int) < (s2 : Int)) = false) (q1 : (s1 == 0) = true) (q1i : ((s1 : Int) == 0) = true) (r : List (List Int)) (tc : ∀ W : World, Below w.heap.size w W → Calls Tryd.prog 34 #[.agg #[.int .i64 a0, .int .i64 a1, .int .i64 a2, .int .u64 a3, .int .u64 a4, .int .u64 a5], .slice A L.length c, .int .u64 (s1 : Int), .int .u64 (s2 : Int)] W fun en w' => ∃ Ar cr, en = .returned (.tuple #[.slice Ar r.length cr, .bool true]) ∧ r.length ≤ cr ∧ CL w' Ar r ∧ Below W.heap.size W w') (hrn : r.length = 0) (hrt : ((r.length : Int) == 0) = true) :
    Calls Tryd.prog 9 #[.agg #[.int .i64 a0, .int .i64 a1, .int .i64 a2, .int .u64 a3, .int .u64 a4, .int .u64 a5], .slice A L.length c, .int .u64 (s1 : Int), .int .u64 (s2 : Int)] w fun en w' => en = .returned (.bool true) ∧ Below w.heap.size w w' := by
  have H1 := Aside0.mk h1
  clear h1
  have _u := And.intro e1 (Eq.refl K)
  clear _u
  have HB : Aside0 (Below w.heap.size w (w.alloc (.cells #[.int .i64 a0, .int .i64 a1, .int .i64 a2, .int .u64 a3, .int .u64 a4, .int .u64 a5] 24))) := ⟨below_alloc (Below.refl _ _) _⟩
  have HX : Aside0 ((w.alloc (.cells #[.int .i64 a0, .int .i64 a1, .int .i64 a2, .int .u64 a3, .int .u64 a4, .int .u64 a5] 24)).heap[w.heap.size]? = some (.cells #[.int .i64 a0, .int .i64 a1, .int .i64 a2, .int .u64 a3, .int .u64 a4, .int .u64 a5] 24 (0, 0))) := ⟨heap_alloc_new w (.cells #[.int .i64 a0, .int .i64 a1, .int .i64 a2, .int .u64 a3, .int .u64 a4, .int .u64 a5] 24)⟩
  have ZZ := Aside0.mk zz
  clear zz
  have PP := Aside0.mk pp
  clear pp
  have TC := Aside0.mk tc
  clear tc
  have ML := Aside0.mk hml
  clear hml
  have hw : ∀ z : Int, z = (L.length : Int) → IntKind.u64.wrap z = (L.length : Int) := fun z hz => by
    rw [hz]
    show (L.length : Int) % 18446744073709551616 = _
    have := ML.out
    omega
  have _v := And.intro p1 (And.intro p1i (And.intro p2 (And.intro p2i (And.intro q1 (And.intro q1i (And.intro hrn (And.intro hrt (Eq.refl K))))))))
  clear _v
  go_enter Tryd.func9, Tryd.ntmps9
  go_wp2_with fail
  go_wp2_with (first
    | (go_at_call 13; (with_reducible refine (laws_zzFits2.calls K A c L _ _ (Kd.C_below H1.out HB.out) e1 ZZ.out).mono ?_); rintro en wz ⟨rfl, hd⟩; (first | have hb := hd.below | have hb := hd); clear hd; have HB1 := Aside0.mk (below_then HB.out HB.out.size hb); have HX1 := Aside0.mk (blk_below HX.out hb); clear HB HX hb; have HB := HB1; have HX := HX1; clear HB1 HX1; (try clear hk0 hk1 hk2 hk3 hk4 hk5); obtain ⟨hk0, hk1, hk2, hk3, hk4, hk5⟩ := box6 HX.out)
    | (go_at_call 15; (with_reducible refine (laws_logSmall.calls K A c L _ _ (Kd.C_below H1.out HB.out) e1 PP.out).mono ?_); rintro en wp ⟨rfl, hd⟩; (first | have hb := hd.below | have hb := hd); clear hd; have HB1 := Aside0.mk (below_then HB.out HB.out.size hb); have HX1 := Aside0.mk (blk_below HX.out hb); clear HB HX hb; have HB := HB1; have HX := HX1; clear HB1 HX1; (try clear hk0 hk1 hk2 hk3 hk4 hk5); obtain ⟨hk0, hk1, hk2, hk3, hk4, hk5⟩ := box6 HX.out))
  go_wp2_with (first
    | (go_at_call 34; (with_reducible refine (TC.out _ HB.out).mono ?_); rintro en wt ⟨Ar, cr, rfl, hlr, hCr, hb⟩; have HLR := Aside0.mk hlr; have HCR := Aside0.mk hCr; clear hlr hCr; have HB1 := Aside0.mk (below_then HB.out HB.out.size hb); have HX1 := Aside0.mk (blk_below HX.out hb); clear HB HX hb; have HB := HB1; have HX := HX1; clear HB1 HX1; (try clear hk0 hk1 hk2 hk3 hk4 hk5); obtain ⟨hk0, hk1, hk2, hk3, hk4, hk5⟩ := box6 HX.out))
  go_ret
  exact ⟨rfl, HB.out⟩

set_option maxHeartbeats 4000000 in
set_option maxRecDepth 100000 in
theorem tcl6 (K : Nat) (a0 a1 a2 a3 a4 a5 : Int) (A : Option Addr) (c : Nat) (L : List (List Int)) (s1 s2 : Nat) (w : World) (h1 : CL w A L) (e1 : L.length ≤ c) (zz : laws_zzFits2.f K L = some true) (pp : laws_logSmall.f K L = some true) (hml : L.length ≤ 2147483647) (p1 : decide (s2 < s1) = false) (p1i : decide ((s2 : Int) < (s1 : Int)) = false) (p2 : decide (L.length < s2) = false) (p2i : decide ((L.length : Int) < (s2 : Int)) = false) (pl : s2 ≤ L.length) (q1 : (s1 == 0) = false) (q1i : ((s1 : Int) == 0) = false) (r : List (List Int)) (tc : ∀ W : World, Below w.heap.size w W → Calls Tryd.prog 34 #[.agg #[.int .i64 a0, .int .i64 a1, .int .i64 a2, .int .u64 a3, .int .u64 a4, .int .u64 a5], .slice A L.length c, .int .u64 (s1 : Int), .int .u64 (s2 : Int)] W fun en w' => ∃ Ar cr, en = .returned (.tuple #[.slice Ar r.length cr, .bool true]) ∧ r.length ≤ cr ∧ CL w' Ar r ∧ Below W.heap.size W w') (kr : Nat) (sp : spec_Proof.f kr a0 a1 a2 a3 a4 a5 (L.take s2) (s1 : Int) = some r) (ss : spec_Same.f r r = some true) :
    Calls Tryd.prog 9 #[.agg #[.int .i64 a0, .int .i64 a1, .int .i64 a2, .int .u64 a3, .int .u64 a4, .int .u64 a5], .slice A L.length c, .int .u64 (s1 : Int), .int .u64 (s2 : Int)] w fun en w' => en = .returned (.bool true) ∧ Below w.heap.size w w' := by
  have H1 := Aside0.mk h1
  clear h1
  have _u := And.intro e1 (Eq.refl K)
  clear _u
  have HB : Aside0 (Below w.heap.size w (w.alloc (.cells #[.int .i64 a0, .int .i64 a1, .int .i64 a2, .int .u64 a3, .int .u64 a4, .int .u64 a5] 24))) := ⟨below_alloc (Below.refl _ _) _⟩
  have HX : Aside0 ((w.alloc (.cells #[.int .i64 a0, .int .i64 a1, .int .i64 a2, .int .u64 a3, .int .u64 a4, .int .u64 a5] 24)).heap[w.heap.size]? = some (.cells #[.int .i64 a0, .int .i64 a1, .int .i64 a2, .int .u64 a3, .int .u64 a4, .int .u64 a5] 24 (0, 0))) := ⟨heap_alloc_new w (.cells #[.int .i64 a0, .int .i64 a1, .int .i64 a2, .int .u64 a3, .int .u64 a4, .int .u64 a5] 24)⟩
  have ZZ := Aside0.mk zz
  clear zz
  have PP := Aside0.mk pp
  clear pp
  have TC := Aside0.mk tc
  clear tc
  have PL := Aside0.mk pl
  clear pl
  have SP := Aside0.mk sp
  clear sp
  have SS := Aside0.mk ss
  clear ss
  have ML := Aside0.mk hml
  clear hml
  have hw : ∀ z : Int, z = (L.length : Int) → IntKind.u64.wrap z = (L.length : Int) := fun z hz => by
    rw [hz]
    show (L.length : Int) % 18446744073709551616 = _
    have := ML.out
    omega
  obtain ⟨L2, hL2⟩ : ∃ L2, L2 = L.take s2 := ⟨_, rfl⟩
  rw [← hL2] at SP
  have hl2 : L2.length = s2 := by rw [hL2, List.length_take]; have := PL.out; omega
  have HTK : Aside0 (CL w A L2) := ⟨by rw [hL2]; exact Kd.C_take (m := s2) H1.out (by have := PL.out; omega)⟩
  have HTC : Aside0 (L2.length ≤ c) := ⟨by rw [hl2]; have := PL.out; omega⟩
  have hcut : ∀ W : World, (Instr.slice 25 (.slice A L.length c) none (some (.int .u64 (s2 : Int))) none).run Tryd.prog W = .ok (.slice A L2.length c) W := fun W => by
    obtain ⟨iL, hiL, _⟩ := Option.map_eq_some_iff.1 infoL
    have h := cut_to (P := Tryd.prog) 25 28 .u64 Tryd.underlying25 hiL A L.length c (s2 : Int) (by omega) (by have := PL.out; omega) e1 W
    rw [Int.toNat_natCast] at h
    rw [hl2]
    exact h
  clear hl2 hL2
  have _v := And.intro p1 (And.intro p1i (And.intro p2 (And.intro p2i (And.intro q1 (And.intro q1i (Eq.refl K))))))
  clear _v
  go_enter Tryd.func9, Tryd.ntmps9
  go_wp2_with fail
  go_wp2_with (first
    | (go_at_call 13; (with_reducible refine (laws_zzFits2.calls K A c L _ _ (Kd.C_below H1.out HB.out) e1 ZZ.out).mono ?_); rintro en wz ⟨rfl, hd⟩; (first | have hb := hd.below | have hb := hd); clear hd; have HB1 := Aside0.mk (below_then HB.out HB.out.size hb); have HX1 := Aside0.mk (blk_below HX.out hb); clear HB HX hb; have HB := HB1; have HX := HX1; clear HB1 HX1; (try clear hk0 hk1 hk2 hk3 hk4 hk5); obtain ⟨hk0, hk1, hk2, hk3, hk4, hk5⟩ := box6 HX.out)
    | (go_at_call 15; (with_reducible refine (laws_logSmall.calls K A c L _ _ (Kd.C_below H1.out HB.out) e1 PP.out).mono ?_); rintro en wp ⟨rfl, hd⟩; (first | have hb := hd.below | have hb := hd); clear hd; have HB1 := Aside0.mk (below_then HB.out HB.out.size hb); have HX1 := Aside0.mk (blk_below HX.out hb); clear HB HX hb; have HB := HB1; have HX := HX1; clear HB1 HX1; (try clear hk0 hk1 hk2 hk3 hk4 hk5); obtain ⟨hk0, hk1, hk2, hk3, hk4, hk5⟩ := box6 HX.out))
  go_wp2_with (first
    | (go_at_call 34; (with_reducible refine (TC.out _ HB.out).mono ?_); rintro en wt ⟨Ar, cr, rfl, hlr, hCr, hb⟩; have HLR := Aside0.mk hlr; have HCR := Aside0.mk hCr; clear hlr hCr; have HB1 := Aside0.mk (below_then HB.out HB.out.size hb); have HX1 := Aside0.mk (blk_below HX.out hb); clear HB HX hb; have HB := HB1; have HX := HX1; clear HB1 HX1; (try clear hk0 hk1 hk2 hk3 hk4 hk5); obtain ⟨hk0, hk1, hk2, hk3, hk4, hk5⟩ := box6 HX.out))
  have hb3 : Below wt.heap.size wt wt.drew := below_drew (Below.refl _ _)
  have HBz := Aside0.mk (below_then HB.out HB.out.size hb3)
  have HXz := Aside0.mk (blk_below HX.out hb3)
  have HCz := Aside0.mk (Kd.C_below HCR.out hb3)
  refine start_ (n := 12) (S := fun w' => w'.cell? ⟨w.heap.size, 0, none⟩ = some (.int .i64 a0) ∧ w'.cell? ⟨w.heap.size, 1, none⟩ = some (.int .i64 a1) ∧ w'.cell? ⟨w.heap.size, 2, none⟩ = some (.int .i64 a2) ∧ w'.cell? ⟨w.heap.size, 3, none⟩ = some (.int .u64 a3) ∧ w'.cell? ⟨w.heap.size, 4, none⟩ = some (.int .u64 a4) ∧ w'.cell? ⟨w.heap.size, 5, none⟩ = some (.int .u64 a5)) (ds := []) #[false, false, false, false, false, false, false, false, false, false, false, false] (by kernel_rfl) rfl rfl (box6 HXz.out) (fun hHeld => ?_)
  generalize wt.drew = wz at HBz HXz HCz hHeld ⊢
  generalize hgb : w.heap.size = gb at HXz hHeld ⊢
  clear hb3 HB HX HCR hk0 hk1 hk2 hk3 hk4 hk5
  refine pure_ (i := 0) (N := some 45) (v := ?_) (a' := ?_) #[true, false, false, false, false, false, false, false, false, false, false, false] rfl rfl (by kernel_rfl) (fun _ _ _ h => h) (Or.inl ⟨by rfl, ?_⟩) ?_ ?_
  rotate_left
  · intro w'
    go_simp
    with_reducible rfl
  rotate_left
  · simp only [Act.put, List.setIfInBounds_toArray, List.set_cons_zero, List.set_cons_succ]
    rfl
  refine pure_ (i := 1) (N := some 46) (v := ?_) (a' := ?_) #[true, true, false, false, false, false, false, false, false, false, false, false] rfl rfl (by kernel_rfl) (fun _ _ _ h => h) (Or.inl ⟨by rfl, ?_⟩) ?_ ?_
  rotate_left
  · intro w'
    go_simp
    with_reducible rfl
  rotate_left
  · simp only [Act.put, List.setIfInBounds_toArray, List.set_cons_zero, List.set_cons_succ]
    rfl
  refine pure_ (i := 2) (N := some 47) (v := ?_) (a' := ?_) #[true, true, true, false, false, false, false, false, false, false, false, false] rfl rfl (by kernel_rfl) (fun _ _ _ h => h) (Or.inl ⟨by rfl, ?_⟩) ?_ ?_
  rotate_left
  · intro w'
    go_simp
    with_reducible rfl
  rotate_left
  · simp only [Act.put, List.setIfInBounds_toArray, List.set_cons_zero, List.set_cons_succ]
    rfl
  refine take_ (i := 3) (N := some 48) (v := ?_) (a' := ?_) #[true, true, true, true, false, false, false, false, false, false, false, false] rfl rfl (by kernel_rfl) (fun _ _ _ h => h) (Or.inl ⟨by rfl, ?_⟩) hHeld ?_ ?_
  rotate_left
  · rintro w' ⟨s0_, s1_, s2_, s3_, s4_, s5_⟩
    go_simp
    with_reducible rfl
  rotate_left
  · simp only [Act.put, List.setIfInBounds_toArray, List.set_cons_zero, List.set_cons_succ]
    rfl
  refine pure_ (i := 4) (N := some 49) (v := ?_) (a' := ?_) #[true, true, true, true, true, false, false, false, false, false, false, false] rfl rfl (by kernel_rfl) (fun _ _ _ h => h) (Or.inl ⟨by rfl, ?_⟩) ?_ ?_
  rotate_left
  · intro w'
    go_simp
    with_reducible rfl
  rotate_left
  · simp only [Act.put, List.setIfInBounds_toArray, List.set_cons_zero, List.set_cons_succ]
    rfl
  refine pure_ (i := 5) (N := some 50) (v := ?_) (a' := ?_) #[true, true, true, true, true, true, false, false, false, false, false, false] rfl rfl (by kernel_rfl) (fun _ _ _ h => h) (Or.inl ⟨by rfl, ?_⟩) ?_ ?_
  rotate_left
  · intro w'
    go_simp
    with_reducible rfl
  rotate_left
  · simp only [Act.put, List.setIfInBounds_toArray, List.set_cons_zero, List.set_cons_succ]
    rfl
  refine pure_ (i := 6) (N := some 51) (v := ?_) (a' := ?_) #[true, true, true, true, true, true, true, false, false, false, false, false] rfl rfl (by kernel_rfl) (fun _ _ _ h => h) (Or.inl ⟨by rfl, ?_⟩) ?_ ?_
  rotate_left
  · intro w'
    go_simp
    with_reducible rfl
  rotate_left
  · simp only [Act.put, List.setIfInBounds_toArray, List.set_cons_zero, List.set_cons_succ]
    rfl
  refine pure_ (i := 7) (N := some 52) (v := ?_) (a' := ?_) #[true, true, true, true, true, true, true, true, false, false, false, false] rfl rfl (by kernel_rfl) (fun _ _ _ h => h) (Or.inl ⟨by rfl, ?_⟩) ?_ ?_
  rotate_left
  · intro w'
    go_simp
    with_reducible rfl
  rotate_left
  · simp only [Act.put, List.setIfInBounds_toArray, List.set_cons_zero, List.set_cons_succ]
    rfl
  refine one_ (i := 8) (N := some 53) #[true, true, true, true, true, true, true, true, true, false, false, false] rfl rfl (by kernel_rfl) (by decide) (fun K hK => ?_)
  refine goes_ Tryd.func35 (by kernel_rfl) rfl #[.agg #[.int .i64 a0, .int .i64 a1, .int .i64 a2, .int .u64 a3, .int .u64 a4, .int .u64 a5], .slice A L2.length c, .int .u64 (s1 : Int)] (by rfl) rfl rfl (by (try simp only [List.map_toArray, List.map_cons, List.map_nil]); first | done | rfl) ?_
  refine (proof_arg (Kd.C_below HTK.out HBz.out) HTC.out SP.out).mono ?_
  rintro en wp ⟨Ap, cp, rfl, hlp, hCp, hb⟩
  refine ⟨_, rfl, ?_⟩
  have HLP := Aside0.mk hlp
  have HCP := Aside0.mk hCp
  have HC8 := Aside0.mk (Kd.C_below HCz.out hb)
  have HX8 := Aside0.mk (blk_below HXz.out hb)
  have HB8 := Aside0.mk (below_then HBz.out HBz.out.size hb)
  clear hlp hCp hb HBz HXz HCz hHeld
  refine hK.out _ _ (box6 HX8.out) (fun hHeld => ?_)
  clear hK K
  refine norm_ (a' := ?_) ?_ ?_
  rotate_left
  · show Act.put _ (some 53) _ = _
    simp only [Act.put, List.setIfInBounds_toArray, List.set_cons_zero, List.set_cons_succ]
    rfl
  refine one_ (i := 9) (N := some 54) #[true, true, true, true, true, true, true, true, true, true, false, false] rfl rfl (by kernel_rfl) (by decide) (fun K hK => ?_)
  refine goes_ Tryd.func18 (by kernel_rfl) rfl #[.slice Ar r.length cr, .slice Ap r.length cp] (by rfl) rfl rfl (by (try simp only [List.map_toArray, List.map_cons, List.map_nil]); first | done | rfl) ?_
  refine (spec_Same.calls Ar cr r Ap cp r true wp HC8.out HLR.out HCP.out HLP.out SS.out).mono ?_
  rintro en wq ⟨rfl, hd⟩
  refine ⟨_, rfl, ?_⟩
  have hb := hd.below
  have HX9 := Aside0.mk (blk_below HX8.out hb)
  have HB9 := Aside0.mk (below_then HB8.out HB8.out.size hb)
  clear hd hb hHeld HX8 HB8 HC8 HCP
  refine hK.out _ _ (box6 HX9.out) (fun hHeld => ?_)
  clear hK K
  refine norm_ (a' := ?_) ?_ ?_
  rotate_left
  · show Act.put _ (some 54) _ = _
    simp only [Act.put, List.setIfInBounds_toArray, List.set_cons_zero, List.set_cons_succ]
    rfl
  refine pure_ (i := 10) (N := some 55) (v := ?_) (a' := ?_) #[true, true, true, true, true, true, true, true, true, true, true, false] rfl rfl (by kernel_rfl) (fun _ _ _ h => h) (Or.inl ⟨by rfl, ?_⟩) ?_ ?_
  rotate_left
  · intro w'
    go_simp
    with_reducible rfl
  rotate_left
  · simp only [Act.put, List.setIfInBounds_toArray, List.set_cons_zero, List.set_cons_succ]
    rfl
  refine pure_ (i := 11) (N := some 8) (v := ?_) (a' := ?_) #[true, true, true, true, true, true, true, true, true, true, true, true] rfl rfl (by kernel_rfl) (fun _ _ _ h => h) (Or.inl ⟨by rfl, ?_⟩) ?_ ?_
  rotate_left
  · intro w'
    go_simp
    with_reducible rfl
  rotate_left
  · simp only [Act.put, List.setIfInBounds_toArray, List.set_cons_zero, List.set_cons_succ]
    rfl
  refine done_ (by kernel_rfl) ?_
  go_wp2
  go_ret
  exact ⟨rfl, HB9.out⟩

end Go.Proofs.YtfhcpniibiobgaaDoor.Qf
