/- Several texts, joined. -/
import Derived.Test.YtfhcpniibiobgaaDoorJx
namespace Go.Proofs.YtfhcpniibiobgaaDoor.Qf
open Go.RowKit Go.Proofs.YtfhcpniibiobgaaDoorW.PrintWords Go.Proofs.YtfhcpniibiobgaaDoorW.PrintLast Go.Proofs.YtfhcpniibiobgaaDoorW.PrintMore
open Hs (CB CL at_L at_B infoB infoL R_of_blk)

/-- Only the blocks of S change; the others of the elder world are as they were. -/
structure KeptS (S : Nat → Prop) (w w' : World) : Prop where
  size : w.heap.size ≤ w'.heap.size
  block : ∀ k, k < w.heap.size → ¬ S k → w'.heap[k]? = w.heap[k]?
theorem KeptS.refl (S : Nat → Prop) (w : World) : KeptS S w w := ⟨Nat.le_refl _, fun _ _ _ => rfl⟩
theorem KeptS.below {S : Nat → Prop} {w w' : World} (h : Below w.heap.size w w') : KeptS S w w' := ⟨h.size, fun k hk _ => h.block k hk⟩
/-- S' has besides S only blocks that are new at w. -/
def Grows (S S' : Nat → Prop) (w : World) : Prop := (∀ k, S k → S' k) ∧ ∀ k, S' k → S k ∨ w.heap.size ≤ k
theorem Grows.refl (S : Nat → Prop) (w : World) : Grows S S w := ⟨fun _ h => h, fun _ h => .inl h⟩
theorem KeptS.trans {S S' : Nat → Prop} {a b c : World} (h : KeptS S a b) (g : Grows S S' a) (k : KeptS S' b c) : KeptS S' a c :=
  ⟨Nat.le_trans h.size k.size, fun i hi hS => (k.block i (Nat.lt_of_lt_of_le hi h.size) hS).trans (h.block i hi fun hs => hS (g.1 i hs))⟩
theorem Grows.trans {S S' S'' : Nat → Prop} {a b : World} (h : Grows S S' a) (hab : a.heap.size ≤ b.heap.size) (k : Grows S' S'' b) : Grows S S'' a :=
  ⟨fun i hi => k.1 i (h.1 i hi), fun i hi => by
    rcases k.2 i hi with h1 | h1
    · exact h.2 i h1
    · exact .inr (by omega)⟩

/-- Bytes that lie in no block that may change. -/
structure Safe (S : Nat → Prop) (w : World) (A : Option Addr) (s : List Int) : Prop where
  bytes : CB w A s
  away : 0 < s.length → ∀ ad, A = some ad → ad.block < w.heap.size ∧ ¬ S ad.block
theorem Safe.step {S S' : Nat → Prop} {w w' : World} {A : Option Addr} {s : List Int} (h : Safe S w A s) (g : Grows S S' w) (k : KeptS S' w w') : Safe S' w' A s :=
  ⟨CB_frame h.bytes fun hp ad e => k.block _ (h.away hp ad e).1 (fun hs => by
      rcases g.2 _ hs with h1 | h1
      · exact (h.away hp ad e).2 h1
      · have := (h.away hp ad e).1
        omega), fun hp ad e => ⟨Nat.lt_of_lt_of_le (h.away hp ad e).1 k.size, fun hs => by
      rcases g.2 _ hs with h1 | h1
      · exact (h.away hp ad e).2 h1
      · have := (h.away hp ad e).1
        omega⟩⟩
theorem Safe.below {S : Nat → Prop} {w w' : World} {A : Option Addr} {s : List Int} (h : Safe S w A s) (hb : Below w.heap.size w w') : Safe S w' A s := h.step (Grows.refl _ _) (KeptS.below hb)
/-- A fresh hash is safe. -/
theorem Safe.new {S : Nat → Prop} {w w' : World} {A : Option Addr} {c : Nat} {s : List Int} (hS : ∀ k, S k → k < w.heap.size) (hr : Kd.R (Kd.int .u8) 5 w' w.heap.size (fun _ => True) (.slice A s.length c) s) : Safe S w' A s :=
  ⟨(Kd.R_reads' hr).2.2, fun _ ad e => by
    obtain ⟨h1, h2⟩ := hash_blk hr ad e
    exact ⟨h2, fun hs => by have := hS _ hs; omega⟩⟩
/-- What is old and lies below all that may change is safe. -/
theorem Safe.old {S : Nat → Prop} {w0 w : World} {A : Option Addr} {s : List Int} (hb : CB w0 A s) (hw : Below w0.heap.size w0 w) (hS : ∀ k, S k → w0.heap.size ≤ k) : Safe S w A s :=
  ⟨Kd.C_below hb hw, fun hp ad e => by
    obtain ⟨ad', e', hc⟩ := at_B hb 0 hp
    rw [e] at e'
    cases e'
    have h1 := World.block_lt_of_cell? w0 _ hc
    rw [Addr.add_zero'] at h1
    exact ⟨Nat.lt_of_lt_of_le h1 hw.size, fun hs => by have := hS _ hs; omega⟩⟩

/-- A row of hashes, its own block among those that may change, its elements safe. -/
def kG (S : Nat → Prop) (w0 : World) : Kd (List Int) where
  sz := 1
  E := []
  K := fun _ x cs => ∃ A c, cs = [.slice A x.length c] ∧ x.length ≤ c ∧ Safe S w0 A x
  M := fun _ _ _ x cs => ∃ A c, cs = [.slice A x.length c] ∧ x.length ≤ c ∧ Safe S w0 A x
  K_len := by
    rintro w x cs ⟨A, c, rfl, _⟩
    rfl
  K_one := by
    rintro w x cs ⟨A, c, rfl, _⟩ u hu
    rw [List.mem_singleton.1 hu]
    rfl
  K_below := fun _ h => h
  K_of_M := fun h => h
  M_mono := fun _ h => h
  M_bound := fun h => h
  M_move := fun _ h => h
  M_lower := fun _ h => h
structure Rows (S : Nat → Prop) (w : World) (base : Nat) (v : Value) (l : List (List Int)) : Prop where
  row : (kG S w).R 28 w base (fun _ => True) v l
  own : ∀ k, v.ownBlock = some k → S k
theorem Rows.step {S S' : Nat → Prop} {w w' : World} {base : Nat} {v : Value} {l : List (List Int)} (h : Rows S w base v l) (g : Grows S S' w) (k : KeptS S' w w') (ho : ∀ q, v.ownBlock = some q → w'.heap[q]? = w.heap[q]?) : Rows S' w' base v l := by
  obtain ⟨⟨h0, inner, hown, hr⟩, h2⟩ := h
  exact ⟨⟨h0, inner, own_move hown ho, hr.imp_ fun _ _ ⟨A, c, e1, e2, e3⟩ => ⟨A, c, e1, e2, e3.step g k⟩⟩, fun q hq => g.1 q (h2 q hq)⟩
theorem Rows.below {S : Nat → Prop} {w w' : World} {base : Nat} {v : Value} {l : List (List Int)} (h : Rows S w base v l) (hb : Below w.heap.size w w') : Rows S w' base v l :=
  h.step (Grows.refl _ _) (KeptS.below hb) fun q hq => hb.block q (Kd.R_lt h.row q hq)
/-- An element of the row. -/
theorem Rows.at {S : Nat → Prop} {w : World} {base : Nat} {v : Value} {l : List (List Int)} (h : Rows S w base v l) (i : Nat) (hi : i < l.length) : ∃ ad c A0 c0, v = .slice (some ad) l.length c ∧ l.length ≤ c ∧ w.cell? (ad.add i) = some (.slice A0 (l.getD i []).length c0) ∧ (l.getD i []).length ≤ c0 ∧ Safe S w A0 (l.getD i []) := by
  obtain ⟨A, c, rfl, hl, hC⟩ := Kd.R_reads h.row
  obtain ⟨ad, cs, e, _, hK, hc0⟩ := Kd.C_get hC ([] : List Int) (i : Int) (by omega) (by omega)
  simp only [Int.toNat_natCast] at hK hc0
  have hc : ∀ j u, cs[j]? = some u → w.cell? (ad.add (i * 1 + j)) = some u := hc0
  obtain ⟨A0, c0, rfl, l0, g0⟩ := hK
  subst e
  exact ⟨ad, c, A0, c0, rfl, hl, by have hq := hc 0 _ rfl; rwa [Nat.mul_one, Nat.add_zero] at hq, l0, g0⟩
end Go.Proofs.YtfhcpniibiobgaaDoor.Qf
namespace Go.Proofs.YtfhcpniibiobgaaDoor.Qf
open Go.RowKit Go.Proofs.YtfhcpniibiobgaaDoorW.PrintWords Go.Proofs.YtfhcpniibiobgaaDoorW.PrintLast Go.Proofs.YtfhcpniibiobgaaDoorW.PrintMore
open Hs (CB CL at_L at_B infoB infoL R_of_blk)

/-- The range at gr (made by gf), its hashes l in the row vr; what was seen, n of them, in the row vs of the variable gs. -/
structure RSt (a0 a1 a2 a3 a4 a5 : Int) (w0 : World) (gr gf gs : Nat) (S : Nat → Prop) (w : World) (b e : Int) (vr vs : Value) (l : List (List Int)) (n : Nat) : Prop where
  below : Below w0.heap.size w0 w
  base : ∀ k, S k → w0.heap.size ≤ k
  top : ∀ k, S k → k < w.heap.size
  fac : w.heap[gf]? = some (facObj a0 a1 a2 a3 a4 a5)
  nfac : ¬ S gf
  obj : w.heap[gr]? = some (.cells #[.pointer (some ⟨gf, 0, none⟩), .int .u64 b, .int .u64 e, vr] 151 (0, 0))
  sobj : S gr
  rows : Rows S w w0.heap.size vr l
  seen : w.heap[gs]? = some (.cells #[vs] 37 (0, 0))
  sseen : S gs
  srow : kV.R 58 w (gs + 1) (fun _ => True) vs (List.replicate n ())
  sown : ∀ k, vs.ownBlock = some k → S k
theorem below_sz' {a b c : World} (h1 : Below a.heap.size a b) (h2 : Below a.heap.size b c) : Below a.heap.size a c := h1.trans h2
theorem two_types {w : World} {g t1 t2 : Nat} {c1 c2 : Array Value} (h1 : w.heap[g]? = some (.cells c1 t1 (0, 0))) (h2 : w.heap[g]? = some (.cells c2 t2 (0, 0))) : t1 = t2 := by
  rw [h1] at h2
  injection h2 with h2
  injection h2
section
variable {a0 a1 a2 a3 a4 a5 : Int} {w0 : World} {gr gf gs : Nat} {S : Nat → Prop} {w w' : World} {b e : Int} {vr vs : Value} {l : List (List Int)} {n : Nat}
theorem RSt.ne_gs (h : RSt a0 a1 a2 a3 a4 a5 w0 gr gf gs S w b e vr vs l n) : gr ≠ gs := fun he => by
  have h1 := h.obj
  rw [he] at h1
  exact absurd (two_types h1 h.seen) (by decide)
theorem RSt.step (h : RSt a0 a1 a2 a3 a4 a5 w0 gr gf gs S w b e vr vs l n) (hb : Below w.heap.size w w') : RSt a0 a1 a2 a3 a4 a5 w0 gr gf gs S w' b e vr vs l n where
  below := below_step h.below hb
  base := h.base
  top := fun k hk => Nat.lt_of_lt_of_le (h.top k hk) hb.size
  fac := blk_below h.fac hb
  nfac := h.nfac
  obj := blk_below h.obj hb
  sobj := h.sobj
  rows := h.rows.below hb
  seen := blk_below h.seen hb
  sseen := h.sseen
  srow := kV_below h.srow hb
  sown := h.sown
/-- The own block of the range's row is of the rows' type. -/
theorem RSt.rown (h : RSt a0 a1 a2 a3 a4 a5 w0 gr gf gs S w b e vr vs l n) : ∀ k, vr.ownBlock = some k → k ≠ gs ∧ some k ≠ vs.ownBlock ∧ k ≠ gr := fun k hk => by
  obtain ⟨_, ho⟩ := Kd.R_own h.rows.row
  obtain ⟨cells, hc⟩ := own_typed ho k hk
  refine ⟨fun he => ?_, Kd.R_ne h.srow hc (by decide), fun he => ?_⟩
  · subst he
    exact absurd (two_types hc h.seen) (by decide)
  · subst he
    exact absurd (two_types hc h.obj) (by decide)
/-- A visit: what is shown goes behind what was seen. -/
theorem RSt.visit (h : RSt a0 a1 a2 a3 a4 a5 w0 gr gf gs S w b e vr vs l n) (lv ix : Int) (A : Option Addr) (c : Nat) (s : List Int) (hs : Safe S w A s) (hl : s.length ≤ 140737488351232) (hn : n ≤ 1000) :
    Calls Tryd.prog 64 #[.agg #[.int .u64 lv, .int .u64 ix], .slice A s.length c, .pointer (some ⟨gs, 0, none⟩)] w fun en w' => ∃ v0 vs' S', en = .returned v0 ∧ RSt a0 a1 a2 a3 a4 a5 w0 gr gf gs S' w' b e vr vs' l (n + 1) ∧ Grows S S' w ∧ KeptS S' w w' :=
  (visit_calls lv ix A c s gs n vs w hs.bytes hl h.seen (h.top _ h.sseen) h.srow hn).mono fun _ w' ⟨v0, v', h1, h2, h3, h4, h5, h6⟩ => by
    have hsz : w.heap.size ≤ w'.heap.size := h6.size
    have hgs : w0.heap.size ≤ gs := h.base _ h.sseen
    have hg : Grows S (fun k => S k ∨ v'.ownBlock = some k) w := ⟨fun k hk => .inl hk, fun k hk => by
      rcases hk with hk | hk
      · exact .inl hk
      · rcases h5 with h5 | ⟨b', h5, h7⟩
        · exact .inl (h.sown k (h5 ▸ hk))
        · rw [h5] at hk
          injection hk with hk
          exact .inr (by omega)⟩
    have hk : KeptS (fun k => S k ∨ v'.ownBlock = some k) w w' := ⟨hsz, fun k hk hS => h4 k hk (fun he => hS (.inl (he ▸ h.sseen))) (fun he => hS (.inl (h.sown k he.symm)))⟩
    have hgr : w'.heap[gr]? = w.heap[gr]? := h4 gr (h.top _ h.sobj) h.ne_gs (Kd.R_ne h.srow h.obj (by decide))
    refine ⟨v0, v', _, h1, ?_, hg, hk⟩
    exact {
      below := below_sz' h.below (h6.mono hgs)
      base := fun k hk => by
        rcases hg.2 k hk with h8 | h8
        · exact h.base k h8
        · exact Nat.le_trans h.below.size h8
      top := fun k hk => by
        rcases hk with hk | hk
        · exact Nat.lt_of_lt_of_le (h.top k hk) hsz
        · exact (kV_lt h3 k hk).2
      fac := (h4 gf (lt_of_block h.fac) (fun he => h.nfac (he ▸ h.sseen)) (fun he => h.nfac (h.sown gf he.symm))).trans h.fac
      nfac := fun hk => by
        rcases hg.2 gf hk with h8 | h8
        · exact h.nfac h8
        · have := lt_of_block h.fac
          omega
      obj := hgr.trans h.obj
      sobj := .inl h.sobj
      rows := h.rows.step hg hk fun q hq => h4 q (Kd.R_lt h.rows.row q hq) (h.rown q hq).1 (h.rown q hq).2.1
      seen := h2
      sseen := .inl h.sseen
      srow := h3
      sown := fun k hk => .inr hk }
end
end Go.Proofs.YtfhcpniibiobgaaDoor.Qf
namespace Go.Proofs.YtfhcpniibiobgaaDoor.Qf
open Go.RowKit Go.Proofs.YtfhcpniibiobgaaDoorW.PrintWords Go.Proofs.YtfhcpniibiobgaaDoorW.PrintLast Go.Proofs.YtfhcpniibiobgaaDoorW.PrintMore
open Hs (CB CL at_L at_B infoB infoL R_of_blk)
variable {a0 a1 a2 a3 a4 a5 : Int} {w0 : World} {gr gf gs : Nat} {S : Nat → Prop} {w w8 : World} {b e : Int} {vr vs : Value} {l : List (List Int)} {n : Nat}
theorem RSt.put (h : RSt a0 a1 a2 a3 a4 a5 w0 gr gf gs S w b e vr vs l n) {v2 : Value} {l2 : List (List Int)} (hrow : (kG S w).R 28 w8 w0.heap.size (fun _ => True) v2 l2)
    (hG : ∀ k, k < w.heap.size → some k ≠ vr.ownBlock → w8.heap[k]? = w.heap[k]?) (hsz : w.heap.size ≤ w8.heap.size) (hB : Below w0.heap.size w0 w8) (hA : v2.ownBlock = vr.ownBlock ∨ ∃ q, v2.ownBlock = some q ∧ w.heap.size ≤ q) (x : Int) :
    RSt a0 a1 a2 a3 a4 a5 w0 gr gf gs (fun k => S k ∨ v2.ownBlock = some k) ((w8.setCell ⟨gr, 3, none⟩ v2).setCell ⟨gr, 2, none⟩ (.int .u64 x)) b x v2 vs l2 n ∧ Grows S (fun k => S k ∨ v2.ownBlock = some k) w ∧ KeptS (fun k => S k ∨ v2.ownBlock = some k) w ((w8.setCell ⟨gr, 3, none⟩ v2).setCell ⟨gr, 2, none⟩ (.int .u64 x)) := by
  have hown : ∀ k, vr.ownBlock = some k → S k := h.rows.own
  have hrne : some gr ≠ vr.ownBlock := fun he => (h.rown gr he.symm).2.2 rfl
  have hgr8 : w8.heap[gr]? = some (.cells #[.pointer (some ⟨gf, 0, none⟩), .int .u64 b, .int .u64 e, vr] 151 (0, 0)) := (hG gr (h.top _ h.sobj) hrne).trans h.obj
  have far : ∀ k, k ≠ gr → ((w8.setCell ⟨gr, 3, none⟩ v2).setCell ⟨gr, 2, none⟩ (.int .u64 x)).heap[k]? = w8.heap[k]? := fun k hk => (Below.heap_setCell _ _ _ k hk).trans (Below.heap_setCell _ _ _ k hk)
  have size9 : ((w8.setCell ⟨gr, 3, none⟩ v2).setCell ⟨gr, 2, none⟩ (.int .u64 x)).heap.size = w8.heap.size := by simp [World.setCell]
  have hg : Grows S (fun k => S k ∨ v2.ownBlock = some k) w := ⟨fun k hk => .inl hk, fun k hk => by
    rcases hk with hk | hk
    · exact .inl hk
    · rcases hA with h5 | ⟨b', h5, h7⟩
      · exact .inl (hown k (h5 ▸ hk))
      · rw [h5] at hk
        injection hk with hk
        exact .inr (by omega)⟩
  have hk : KeptS (fun k => S k ∨ v2.ownBlock = some k) w ((w8.setCell ⟨gr, 3, none⟩ v2).setCell ⟨gr, 2, none⟩ (.int .u64 x)) := ⟨by rw [size9]; exact hsz, fun k hk hS => (far k (fun he => hS (.inl (he ▸ h.sobj)))).trans (hG k hk (fun he => hS (.inl (hown k he.symm))))⟩
  refine ⟨?_, hg, hk⟩
  have hob : ∀ q, v2.ownBlock = some q → q ≠ gr ∧ q < w8.heap.size ∧ w0.heap.size ≤ q := fun q hq => by
    obtain ⟨_, ho⟩ := Kd.R_own hrow
    obtain ⟨cells, hc⟩ := own_typed ho q hq
    refine ⟨fun he => ?_, Kd.R_lt hrow q hq, Kd.R_base hrow q hq⟩
    subst he
    exact absurd (two_types hc hgr8) (by decide)
  obtain ⟨h0, inner, hown2, hr⟩ := hrow
  exact {
    below := Below.setCell (Below.setCell hB (h.base _ h.sobj) _) (h.base _ h.sobj) _
    base := fun k hk => by
      rcases hk with hk | hk
      · exact h.base k hk
      · exact (hob k hk).2.2
    top := fun k hk => by
      rw [size9]
      rcases hk with hk | hk
      · exact Nat.lt_of_lt_of_le (h.top k hk) hsz
      · exact (hob k hk).2.1
    fac := (far gf (fun he => h.nfac (he ▸ h.sobj))).trans ((hG gf (lt_of_block h.fac) (fun he => h.nfac (hown gf he.symm))).trans h.fac)
    nfac := fun hk => by
      rcases hg.2 gf hk with h8 | h8
      · exact h.nfac h8
      · have := lt_of_block h.fac
        omega
    obj := by
      have h1 := blk_set (blk_set hgr8 3 v2) 2 (.int .u64 x)
      simpa using h1
    sobj := .inl h.sobj
    rows := ⟨⟨h0, inner, own_move hown2 (fun q hq => far q (hob q hq).1), hr.imp_ fun _ _ ⟨A, c, e1, e2, e3⟩ => ⟨A, c, e1, e2, e3.step hg hk⟩⟩, fun q hq => .inr hq⟩
    seen := (far gs (Ne.symm h.ne_gs)).trans ((hG gs (h.top _ h.sseen) (fun he => (h.rown gs he.symm).1 rfl)).trans h.seen)
    sseen := .inl h.sseen
    srow := kV_move h.srow fun q hq => (far q (fun he => Kd.R_ne h.srow h.obj (by decide) (he ▸ hq.symm))).trans (hG q (kV_lt h.srow q hq).2 (fun he => (h.rown q he.symm).2.1 hq.symm))
    sown := fun k hk => .inl (h.sown k hk) }
end Go.Proofs.YtfhcpniibiobgaaDoor.Qf
