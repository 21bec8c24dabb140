/- What may change, what is kept: safe hashes, rows of them. -/
import Derived.Test.YtfhcpniibiobgaaDoorHm
import Derived.Test.YtfhcpniibiobgaaDoorQfx
import Derived.Deep.RegionHeld3
namespace Go.Proofs.YtfhcpniibiobgaaDoor.Qf
open Go.RowKit Go.Proofs.YtfhcpniibiobgaaDoorW.PrintWords Go.Proofs.YtfhcpniibiobgaaDoorW.PrintLast Go.Proofs.YtfhcpniibiobgaaDoorW.PrintMore
open Hs (CB CL at_L at_B infoB infoL R_of_blk)

theorem CB_frame {w w' : World} {A : Option Addr} {l : List Int} (h : CB w A l) (hm : 0 < l.length → ∀ ad, A = some ad → w'.heap[ad.block]? = w.heap[ad.block]?) : CB w' A l :=
  ⟨h.1, h.2.1, fun hp => by
    obtain ⟨ad, e, hc⟩ := h.2.2 hp
    refine ⟨ad, e, fun j p hj => ?_⟩
    obtain ⟨c, hl, hk, hcell⟩ := hc j p hj
    refine ⟨c, hl, hk, fun i u hu => ?_⟩
    rw [← hcell i u hu]
    unfold World.cell?
    rw [show (ad.add (j * (Kd.int .u8).sz + i)).block = ad.block by unfold Addr.add; split <;> rfl, hm hp ad e]⟩
theorem hash_blk {W : World} {base : Nat} {ok : Nat → Prop} {A : Option Addr} {n c : Nat} {l : List Int} (h : Kd.R (Kd.int .u8) 5 W base ok (.slice A n c) l) : ∀ ad, A = some ad → base ≤ ad.block ∧ ad.block < W.heap.size := by
  rintro ad rfl
  exact ⟨Kd.R_base h _ rfl, Kd.R_lt h _ rfl⟩
theorem two_types {w : World} {g t1 t2 : Nat} {c1 c2 : Array Value} (h1 : w.heap[g]? = some (.cells c1 t1 (0, 0))) (h2 : w.heap[g]? = some (.cells c2 t2 (0, 0))) : t1 = t2 := by
  rw [h1] at h2
  injection h2 with h2
  injection h2
/-- Only the blocks of S change; the others of the elder world are as they were. -/
structure KeptS (S : Nat → Prop) (w w' : World) : Prop where
  size : w.heap.size ≤ w'.heap.size
  block : ∀ k, k < w.heap.size → ¬ S k → w'.heap[k]? = w.heap[k]?
theorem KeptS.refl (S : Nat → Prop) (w : World) : KeptS S w w := ⟨Nat.le_refl _, fun _ _ _ => rfl⟩
theorem KeptS.below {S : Nat → Prop} {w w' : World} (h : Below w.heap.size w w') : KeptS S w w' := ⟨h.size, fun k hk _ => h.block k hk⟩
/-- S' has besides S only blocks that are new at w. -/
def Grows (S S' : Nat → Prop) (w : World) : Prop := (∀ k, S k → S' k) ∧ ∀ k, S' k → S k ∨ w.heap.size ≤ k
theorem Grows.refl (S : Nat → Prop) (w : World) : Grows S S w := ⟨fun _ h => h, fun _ h => .inl h⟩
theorem KeptS.trans {S S' : Nat → Prop} {a b c : World} (h : KeptS S a b) (g : Grows S S' a) (k : KeptS S' b c) : KeptS S' a c :=
  ⟨Nat.le_trans h.size k.size, fun i hi hS => (k.block i (Nat.lt_of_lt_of_le hi h.size) hS).trans (h.block i hi fun hs => hS (g.1 i hs))⟩
theorem Grows.trans {S S' S'' : Nat → Prop} {a b : World} (h : Grows S S' a) (hab : a.heap.size ≤ b.heap.size) (k : Grows S' S'' b) : Grows S S'' a :=
  ⟨fun i hi => k.1 i (h.1 i hi), fun i hi => by
    rcases k.2 i hi with h1 | h1
    · exact h.2 i h1
    · exact .inr (by omega)⟩

/-- Bytes that lie in no block that may change. -/
structure Safe (S : Nat → Prop) (w : World) (A : Option Addr) (s : List Int) : Prop where
  bytes : CB w A s
  away : 0 < s.length → ∀ ad, A = some ad → ad.block < w.heap.size ∧ ¬ S ad.block
theorem Safe.step {S S' : Nat → Prop} {w w' : World} {A : Option Addr} {s : List Int} (h : Safe S w A s) (g : Grows S S' w) (k : KeptS S' w w') : Safe S' w' A s :=
  ⟨CB_frame h.bytes fun hp ad e => k.block _ (h.away hp ad e).1 (fun hs => by
      rcases g.2 _ hs with h1 | h1
      · exact (h.away hp ad e).2 h1
      · have := (h.away hp ad e).1
        omega), fun hp ad e => ⟨Nat.lt_of_lt_of_le (h.away hp ad e).1 k.size, fun hs => by
      rcases g.2 _ hs with h1 | h1
      · exact (h.away hp ad e).2 h1
      · have := (h.away hp ad e).1
        omega⟩⟩
theorem Safe.below {S : Nat → Prop} {w w' : World} {A : Option Addr} {s : List Int} (h : Safe S w A s) (hb : Below w.heap.size w w') : Safe S w' A s := h.step (Grows.refl _ _) (KeptS.below hb)
/-- A fresh hash is safe. -/
theorem Safe.new {S : Nat → Prop} {w w' : World} {A : Option Addr} {c : Nat} {s : List Int} (hS : ∀ k, S k → k < w.heap.size) (hr : Kd.R (Kd.int .u8) 5 w' w.heap.size (fun _ => True) (.slice A s.length c) s) : Safe S w' A s :=
  ⟨(Kd.R_reads' hr).2.2, fun _ ad e => by
    obtain ⟨h1, h2⟩ := hash_blk hr ad e
    exact ⟨h2, fun hs => by have := hS _ hs; omega⟩⟩
/-- What is old and lies below all that may change is safe. -/
theorem Safe.old {S : Nat → Prop} {w0 w : World} {A : Option Addr} {s : List Int} (hb : CB w0 A s) (hw : Below w0.heap.size w0 w) (hS : ∀ k, S k → w0.heap.size ≤ k) : Safe S w A s :=
  ⟨Kd.C_below hb hw, fun hp ad e => by
    obtain ⟨ad', e', hc⟩ := at_B hb 0 hp
    rw [e] at e'
    cases e'
    have h1 := World.block_lt_of_cell? w0 _ hc
    rw [Addr.add_zero'] at h1
    exact ⟨Nat.lt_of_lt_of_le h1 hw.size, fun hs => by have := hS _ hs; omega⟩⟩

/-- A row of hashes, its own block among those that may change, its elements safe. -/
def kG (S : Nat → Prop) (w0 : World) : Kd (List Int) where
  sz := 1
  E := []
  K := fun _ x cs => ∃ A c, cs = [.slice A x.length c] ∧ x.length ≤ c ∧ Safe S w0 A x
  M := fun _ _ _ x cs => ∃ A c, cs = [.slice A x.length c] ∧ x.length ≤ c ∧ Safe S w0 A x
  K_len := by
    rintro w x cs ⟨A, c, rfl, _⟩
    rfl
  K_one := by
    rintro w x cs ⟨A, c, rfl, _⟩ u hu
    rw [List.mem_singleton.1 hu]
    rfl
  K_below := fun _ h => h
  K_of_M := fun h => h
  M_mono := fun _ h => h
  M_bound := fun h => h
  M_move := fun _ h => h
  M_lower := fun _ h => h
structure Rows (S : Nat → Prop) (w : World) (base : Nat) (v : Value) (l : List (List Int)) : Prop where
  row : (kG S w).R 28 w base (fun _ => True) v l
  own : ∀ k, v.ownBlock = some k → S k
theorem Rows.step {S S' : Nat → Prop} {w w' : World} {base : Nat} {v : Value} {l : List (List Int)} (h : Rows S w base v l) (g : Grows S S' w) (k : KeptS S' w w') (ho : ∀ q, v.ownBlock = some q → w'.heap[q]? = w.heap[q]?) : Rows S' w' base v l := by
  obtain ⟨⟨h0, inner, hown, hr⟩, h2⟩ := h
  exact ⟨⟨h0, inner, own_move hown ho, hr.imp_ fun _ _ ⟨A, c, e1, e2, e3⟩ => ⟨A, c, e1, e2, e3.step g k⟩⟩, fun q hq => g.1 q (h2 q hq)⟩
theorem Rows.below {S : Nat → Prop} {w w' : World} {base : Nat} {v : Value} {l : List (List Int)} (h : Rows S w base v l) (hb : Below w.heap.size w w') : Rows S w' base v l :=
  h.step (Grows.refl _ _) (KeptS.below hb) fun q hq => hb.block q (Kd.R_lt h.row q hq)
/-- An element of the row. -/
theorem Rows.at {S : Nat → Prop} {w : World} {base : Nat} {v : Value} {l : List (List Int)} (h : Rows S w base v l) (i : Nat) (hi : i < l.length) : ∃ ad c A0 c0, v = .slice (some ad) l.length c ∧ l.length ≤ c ∧ w.cell? (ad.add i) = some (.slice A0 (l.getD i []).length c0) ∧ (l.getD i []).length ≤ c0 ∧ Safe S w A0 (l.getD i []) := by
  obtain ⟨A, c, rfl, hl, hC⟩ := Kd.R_reads h.row
  obtain ⟨ad, cs, e, _, hK, hc0⟩ := Kd.C_get hC ([] : List Int) (i : Int) (by omega) (by omega)
  simp only [Int.toNat_natCast] at hK hc0
  have hc : ∀ j u, cs[j]? = some u → w.cell? (ad.add (i * 1 + j)) = some u := hc0
  obtain ⟨A0, c0, rfl, l0, g0⟩ := hK
  subst e
  exact ⟨ad, c, A0, c0, rfl, hl, by have hq := hc 0 _ rfl; rwa [Nat.mul_one, Nat.add_zero] at hq, l0, g0⟩
end Go.Proofs.YtfhcpniibiobgaaDoor.Qf
